import JvmDerived
import JvmDerived.Pilot.@@N@@Statement
import JvmDerived.Pilot.@@N@@Code
set_option linter.unusedVariables false
set_option linter.unusedSimpArgs false
namespace Jvm.RoadKit
open Sem ClassFile Op Lib Jvm.Stand Jvm.Free Jvm.LawKit
section Own
variable {p : Program} {l : Launch} {e : Env} {R : Room} {s : State} {m : MethodId} {args : Array Value} {below : List Frame} {meth : Method} {c : Code} {T : State} {locs : List Loc} {cells slots : Nat} {Z : State} {a0 : Array Value} {h h' h2 : Heap}
/-- what is left to show of a walk that stands at S -/
def OEnds (p : Program) (e : Env) (below : List Frame) (s : State) (K N : Nat) (Qf : Option Value → Heap → List Loc → Prop) (S : State) : Prop :=
  ∃ s₂ o, Steps p.tables e below S s₂ ∧ s₂.status = .running ∧ Ended s₂ below o ∧ ∃ v L, o = .returned v ∧ Qf v s₂.heap L ∧ FrameEnd s o s₂ L K N
variable {K N : Nat} {Qf : Option Value → Heap → List Loc → Prop}
theorem OEnds.st {S S' : State} (k : ∀ t, Steps p.tables e below S' t → Steps p.tables e below S t) (h : OEnds p e below s K N Qf S') : OEnds p e below s K N Qf S := by
  obtain ⟨s2, o, h1, r⟩ := h
  exact ⟨s2, o, k _ h1, r⟩
theorem OEnds.cast {g g' : JFrame} (q : g = g') (k : OEnds p e below s K N Qf (T.setTop g')) : OEnds p e below s K N Qf (T.setTop g) := q ▸ k
theorem OEnds.ret (X : Stand p l e R s m args below meth c T locs cells slots) (hx : p.tables.exec = Jvm.exec) {pc : Nat} {Ls : Array Slot} {w : Value} {t : FieldType} {i : Instr} {rest : List Value} (hret : meth.sig.returnType = some t) (hlk : meth.locks = false) (hn : narrow t w = w)
    (hi : (i = .ireturn ∧ (t = .int ∨ t = .boolean ∨ t = .byte ∨ t = .char ∨ t = .short) ∧ ∃ z, w = .int z) ∨ (i = .lreturn ∧ t = .long ∧ ∃ z, w = .long z) ∨ (i = .dreturn ∧ t = .double ∧ ∃ z, w = .double z) ∨ (i = .freturn ∧ t = .float ∧ ∃ z, w = .float z) ∨ (i = .areturn ∧ t.isReference = true ∧ w.isRef = true))
    (hd : decode c.code pc = .ok (i, 1)) (hc : cells ≤ K) (hs : slots ≤ N) (q : Qf (some w) T.heap locs) : OEnds p e below s K N Qf (T.setTop (mkF m pc Ls (w :: rest))) := by
  obtain ⟨fs, hr, hrun, hended, hW, hsame⟩ := X.leave (v := some w) (fun h => by rw [hret] at h; cases h) hlk
  exact ⟨_, _, retOut X hx hret hn hi hd hr, hrun, hended, _, _, rfl, q, ⟨_, rfl⟩, hW, hsame.mono hc hs⟩
theorem OEnds.retV (X : Stand p l e R s m args below meth c T locs cells slots) (hx : p.tables.exec = Jvm.exec) {pc : Nat} {Ls : Array Slot} (hret : meth.sig.returnType = none) (hlk : meth.locks = false)
    (hd : decode c.code pc = .ok (.return_, 1)) (hc : cells ≤ K) (hs : slots ≤ N) (q : Qf none T.heap locs) : OEnds p e below s K N Qf (T.setTop (mkF m pc Ls [])) := by
  obtain ⟨fs, hr, hrun, hended, hW, hsame⟩ := X.leave (v := none) (fun _ => rfl) hlk
  exact ⟨_, _, X.returnOut hx hret hd hr, hrun, hended, _, _, rfl, q, ⟨_, rfl⟩, hW, hsame.mono hc hs⟩
/-- a contract -/
def Con (l : Launch) (Z : State) (y : MethodName) (bytes : ByteArray) (maxL : Nat) (ret : Option FieldType) (ws : List Cond) (rm : Room) (as' : Array Value) (h0 : Heap) (Q : Option Value → Heap → List Loc → Prop) : Prop :=
  MetFree l y (head1 (Cond.code y bytes maxL ret :: ws) rm) (fun a U => a = as' ∧ Z.Warmed39 U.vm ∧ U.heap = h0) (fun _ _ _ _ _ => True) (fun _ U o U' => ∃ v L, o = .returned v ∧ Q v U'.heap L ∧ FrameEnd U o U' L rm.cells rm.slots)
variable {y : MethodName} {bytes : ByteArray} {maxL : Nat} {ret : Option FieldType} {ws : List Cond} {rm : Room} {as' : Array Value} {h0 : Heap} {Q : Option Value → Heap → List Loc → Prop}
theorem Con.walk (hpl : plainFor y = true) (body : ∀ (p : Program) (e : Env) (s : State) (m : MethodId) (below : List Frame) (meth : Method) (c : Code) (T : State), Stand p l e rm s m as' below meth c T [] 0 0 → p.tables.exec = Jvm.exec → Z.Warmed39 s.vm → c.code = bytes → c.maxLocals = maxL →
      s.vm.findClass y.cls = some m.cls → meth.name = y.name → meth.sig.returnType = ret → meth.locks = false → T.heap = h0 → OEnds p e below s rm.cells rm.slots Q (T.setTop (entryFrame m as' maxL))) : Con l Z y bytes maxL ret ws rm as' h0 Q := by
  refine MetFree.of_bodySF hpl hisR ?_
  intro p e s m args below meth c s₁ Bd hml0 hP hK
  obtain ⟨rfl, hZ, hh⟩ := hP
  exact body p e s m below meth c s₁ (Stand.of_body Bd) Bd.exec hZ Bd.bytes hml0 (findClass_of_methodNamed Bd.named) (name_of_methodNamed Bd.named Bd.method).1 Bd.returns Bd.notSynchronized (by rw [← hh, Bd.state]; rfl)
/-- who pays a call, in the one form of this text -/
def SB (l : Launch) (R : Room) (p : Program) (e : Env) (below : List Frame) (s : State) (args : Array Value) (y : MethodName) (len W : Nat) (as' : Array Value) (h : Heap) (Q : Option Value → Heap → List Loc → Prop) (kc ks : Nat) : Prop :=
  Back l R p e below s args y len W (fun A a => a = as' ∧ A.U.heap = h ∧ A.cells + kc ≤ R.cells ∧ A.slots + ks ≤ R.slots) (fun A _ v B => ∃ L, Q v B.U.heap L ∧ B.locs = A.locs ++ L ∧ B.cells = A.cells + kc ∧ B.slots = A.slots + ks)
theorem Con.sb {len W : Nat} (hM : Con l Z y bytes maxL ret [] rm as' h Q) (hZ : Z.Warmed39 s.vm) (wc : (Cond.code y bytes maxL ret).before a0 Z = true) (wz : (Cond.initialized y.cls).before a0 Z = true) (hf : rm.frames + 1 ≤ R.frames) (hl : W + (maxL + 11) + rm.locals ≤ R.locals) :
    SB l R p e below s args y len W as' h Q rm.cells rm.slots := backOf hM hZ wc wz hf hl
theorem SB.of {len W kc ks : Nat} (hB : Back l R p e below s args y len W (fun A a => a = as' ∧ A.U.heap = h ∧ A.cells + kc ≤ R.cells ∧ A.slots + ks ≤ R.slots) (fun A _ v B => ∃ L, Q v B.U.heap L ∧ B.locs = A.locs ++ L ∧ B.cells = A.cells + kc ∧ B.slots = A.slots + ks)) : SB l R p e below s args y len W as' h Q kc ks := hB
theorem SB.mono {len W kc ks : Nat} {Q' : Option Value → Heap → List Loc → Prop} (hB : SB l R p e below s args y len W as' h Q kc ks) (f : ∀ v h' L, Q v h' L → Q' v h' L) : SB l R p e below s args y len W as' h Q' kc ks :=
  Back.mono hB (fun _ _ q => q) (fun _ _ _ _ _ ⟨L, q, r⟩ => ⟨L, f _ _ _ q, r⟩)
theorem callC (X : Stand p l e R s m args below meth c T locs cells slots) (hx : p.tables.exec = Jvm.exec) (hZ : Z.Warmed39 s.vm) {own : String} {index : Nat} {y : MethodName} {bytes : ByteArray} {maxL : Nat} {ret : Option FieldType}
    (hown : s.vm.findClass own = some m.cls) (w1 : (Cond.methodLink own index y).before a0 Z = true) (w2 : (Cond.static y).before a0 Z = true) (w3 : (Cond.initialized y.cls).before a0 Z = true)
    (w4 : (Cond.code y bytes maxL ret).before a0 Z = true) (hy : y.cls ≠ "java/lang/invoke/MethodHandle" ∧ y.cls ≠ "java/lang/invoke/VarHandle") {argsL rest : List Value} {W kc ks : Nat} (hK : SB l R p e below s args y 3 W argsL.toArray h Q kc ks) (eT : T.heap = h)
    {g : JFrame} (hg : g.method = m) (hsize : g.locals.size = c.maxLocals) (hlen : ∀ sig, parseMethodDescriptor y.desc = some sig → argsL.length = sig.parameters.length)
    (hstack : g.stack = argsL.reverse ++ rest) (hW : 2 * g.monitorRoom + (rest.map fun v => v.category).sum ≤ W) (hdg : decode c.code g.pc = .ok (.invokestatic index, 3)) (hc : cells + kc ≤ R.cells) (hs : slots + ks ≤ R.slots) :
    ∃ (v : Option Value) (T' : State) (h' : Heap) (L : List Loc), Stand p l e R s m args below meth c T' (locs ++ L) (cells + kc) (slots + ks) ∧ T'.heap = h' ∧ Q v h' L ∧
      ∀ target, Steps p.tables e below (T'.setTop { g with pc := g.pc + 3, stack := v.toList ++ rest }) target → Steps p.tables e below (T.setTop g) target := by
  obtain ⟨v, vm, ⟨T', L', k', n'⟩, -, X', ⟨L, hQ, l1, y1, z1⟩, st⟩ := Jvm.LawKit.callS X hx hown (mvT hZ w1) (mvT hZ w2) (mvT hZ w3) (mvT hZ w4) hy hK hg hsize hlen hstack hW hdg (fun _ _ => ⟨rfl, eT, hc, hs⟩)
  dsimp only [Pt.U, Pt.locs, Pt.cells, Pt.slots] at X' l1 y1 z1 st hQ
  subst l1 y1 z1
  exact ⟨v, T', _, L, X', rfl, hQ, st⟩
theorem specC (X : Stand p l e R s m args below meth c T locs cells slots) (hx : p.tables.exec = Jvm.exec) (hZ : Z.Warmed39 s.vm) {own : String} {index : Nat} {y : MethodName} {bytes : ByteArray} {maxL : Nat} (hy1 : y.name = "<init>")
    (hown : s.vm.findClass own = some m.cls) (w1 : (Cond.methodLink own index y).before a0 Z = true) (w2 : (Cond.instanceMethod y).before a0 Z = true)
    (w4 : (Cond.code y bytes maxL none).before a0 Z = true) (hy : y.cls ≠ "java/lang/invoke/MethodHandle" ∧ y.cls ≠ "java/lang/invoke/VarHandle") {a : Addr} {argsL rest : List Value} {W kc ks : Nat} (hK : SB l R p e below s args y 3 W (.ref a :: argsL).toArray h Q kc ks) (eT : T.heap = h)
    {g : JFrame} (hg : g.method = m) (hsize : g.locals.size = c.maxLocals) (hlen : ∀ sig, parseMethodDescriptor y.desc = some sig → argsL.length = sig.parameters.length)
    (hstack : g.stack = argsL.reverse ++ .ref a :: rest) (hW : 2 * g.monitorRoom + (rest.map fun v => v.category).sum ≤ W) (hdg : decode c.code g.pc = .ok (.invokespecial index, 3)) (hc : cells + kc ≤ R.cells) (hs : slots + ks ≤ R.slots) :
    ∃ (v : Option Value) (T' : State) (h' : Heap) (L : List Loc), Stand p l e R s m args below meth c T' (locs ++ L) (cells + kc) (slots + ks) ∧ T'.heap = h' ∧ Q v h' L ∧
      ∀ target, Steps p.tables e below (T'.setTop { g with pc := g.pc + 3, stack := v.toList ++ rest }) target → Steps p.tables e below (T.setTop g) target := by
  obtain ⟨v, vm, ⟨T', L', k', n'⟩, -, X', ⟨L, hQ, l1, y1, z1⟩, st⟩ := X.specialBack hx hy1 hown (mvT hZ w1) (mvT hZ w2) (mvT hZ w4) hy hK hg hsize (Steps.refl _) hlen hstack hW hdg (fun _ _ => ⟨rfl, eT, hc, hs⟩)
  dsimp only [Pt.U, Pt.locs, Pt.cells, Pt.slots] at X' l1 y1 z1 st hQ
  subst l1 y1 z1
  exact ⟨v, T', _, L, X', rfl, hQ, fun _ k => st.trans k⟩
theorem virtC (X : Stand p l e R s m args below meth c T locs cells slots) (hx : p.tables.exec = Jvm.exec) (hZ : Z.Warmed39 s.vm) {own C : String} {index : Nat} {y z : MethodName}
    (hown : s.vm.findClass own = some m.cls) (w1 : (Cond.methodLink own index y).before a0 Z = true) (w2 : (Cond.declares y).before a0 Z = true) (hnf : NotFace s y) (w3 : (Cond.selects C y z).before a0 Z = true) (w4 : (Cond.instanceMethod z).before a0 Z = true)
    (hy : y.cls ≠ "java/lang/invoke/MethodHandle" ∧ y.cls ≠ "java/lang/invoke/VarHandle") {a : Addr} {argsL rest : List Value} {W kc ks : Nat} (hK : SB l R p e below s args z 3 W (.ref a :: argsL).toArray h Q kc ks) (eT : T.heap = h) (E : Exa Z h a C)
    {g : JFrame} (hg : g.method = m) (hsize : g.locals.size = c.maxLocals) (hlen : ∀ sig, parseMethodDescriptor y.desc = some sig → argsL.length = sig.parameters.length)
    (hstack : g.stack = argsL.reverse ++ .ref a :: rest) (hW : 2 * g.monitorRoom + (rest.map fun v => v.category).sum ≤ W) (hdg : decode c.code g.pc = .ok (.invokevirtual index, 3)) (hc : cells + kc ≤ R.cells) (hs : slots + ks ≤ R.slots) :
    ∃ (v : Option Value) (T' : State) (h' : Heap) (L : List Loc), Stand p l e R s m args below meth c T' (locs ++ L) (cells + kc) (slots + ks) ∧ T'.heap = h' ∧ Q v h' L ∧
      ∀ target, Steps p.tables e below (T'.setTop { g with pc := g.pc + 3, stack := v.toList ++ rest }) target → Steps p.tables e below (T.setTop g) target := by
  obtain ⟨cq, kq, qa, qb, qc⟩ := isOf hZ eT E
  obtain ⟨v, vm, ⟨T', L', k', n'⟩, -, X', ⟨L, hQ, l1, y1, z1⟩, st⟩ := X.virtualBack hx hown (mvT hZ w1) (mvT hZ w2) hnf (mvT hZ w3) (mvT hZ w4) hy hK qa qc hg hsize (Steps.refl _) hlen hstack hW hdg (fun _ _ => ⟨rfl, eT, hc, hs⟩)
  dsimp only [Pt.U, Pt.locs, Pt.cells, Pt.slots] at X' l1 y1 z1 st hQ
  subst l1 y1 z1
  exact ⟨v, T', _, L, X', rfl, hQ, fun _ k => st.trans k⟩
theorem ne_arv {a b : Addr} {C : String} {k : Nat} {kc : ClassId} {ty : FieldType} {z : Int32} {vs : List Value} {d : Value} (F : Exa Z h a C) (wi : (Cond.instantiable C k).before a0 Z = true) (G : Arv Z h b kc ty z vs d) : a ≠ b := by
  obtain ⟨cl, A, -⟩ := G
  exact ne_arr F wi A
theorem ext_refl (h : Heap) : Ext h h := ⟨Nat.le_refl _, fun _ _ q => q⟩
theorem ext_trans (A : Ext h h') (B : Ext h' h2) : Ext h h2 := ⟨Nat.le_trans A.1 B.1, fun a c q => B.2 a c (A.2 a c q)⟩
theorem ext_keep {ws : List Addr} (O : Ext h h') (Kp : Keep h' h2 ws) (q : ∀ x ∈ ws, h.size ≤ x) : Ext h h2 := ⟨Nat.le_trans O.1 Kp.1, fun a c r => Kp.2.1 a c (O.2 a c r) fun z => absurd (Array.getElem?_eq_some_iff.mp r).1 (Nat.not_lt.mpr (q a z))⟩
theorem ext_wr {a : Addr} {sl : Nat} {v : Value} (O : Ext h h') (W : Wr h' h2 a sl v) (q : h.size ≤ a) : Ext h h2 := ext_keep O (Keep.of_wr W) (allS q all0)
theorem nf_sel {C : String} {y' z y : MethodName} {s : State} {args : Array Value} (w : (Cond.selects C y' z).before args s = true) (hz : z.cls = y.cls) : NotFace s y := fun r0 h0 => by
  obtain ⟨c2, r2, m2, q1, q2, q3, q4, kP, hkP, hkPi⟩ := Cond.selects_spec w
  have e1 := findClass_of_methodNamed h0
  have e2 := findClass_of_methodNamed q3
  rw [hz] at e2
  have e3 : m2.cls = r0.cls := Option.some.inj (e2.symm.trans e1)
  exact ⟨kP, e3 ▸ hkP, hkPi⟩
theorem shl0 (x : Int32) : x <<< ((0 : Int32) &&& 31) = x := by
  apply Int32.toBitVec_inj.mp
  rw [Int32.toBitVec_shiftLeft]
  simp
theorem shr0 (x : Int32) : x >>> ((0 : Int32) &&& 31) = x := by
  apply Int32.toBitVec_inj.mp
  rw [Int32.toBitVec_shiftRight]
  simp
theorem nar_b8 {x : Int32} : nar .byte (x.toInt8.toInt32) = x.toInt8.toInt32 := by simp [nar]
end Own
end Jvm.RoadKit
namespace Jvm.RoadKit
open Sem ClassFile Op Lib Jvm.Stand Jvm.Free Jvm.LawKit
section Own2
variable {p : Program} {l : Launch} {e : Env} {R : Room} {s : State} {m : MethodId} {args : Array Value} {below : List Frame} {meth : Method} {c : Code} {T : State} {locs : List Loc} {cells slots : Nat} {Z : State} {a0 : Array Value} {h : Heap}
variable {Q : Option Value → Heap → List Loc → Prop}
end Own2
end Jvm.RoadKit
namespace Jvm.RoadKit
open Sem ClassFile Op Lib Bundle Jvm.Stand Jvm.Free Jvm.LawKit
section OwnH
variable {p : Program} {l : Launch} {e : Env} {R : Room} {s : State} {m : MethodId} {args : Array Value} {below : List Frame} {meth : Method} {c : Code} {T : State} {locs : List Loc} {cells slots : Nat} {Z : State} {a0 : Array Value} {h h' h2 : Heap} {EL : List (String × Nat)} {vm0 vm1 : Vm}
/-- what is left to show of a walk that may intern String constants -/
def OEndsH (p : Program) (e : Env) (below : List Frame) (Z : State) (EL : List (String × Nat)) (s : State) (K N : Nat) (Qf : Option Value → Heap → List Loc → Prop) (S : State) : Prop :=
  ∃ s₂ o, Steps p.tables e below S s₂ ∧ s₂.status = .running ∧ Ended s₂ below o ∧ ∃ v L, o = .returned v ∧ Qf v s₂.heap L ∧ CHr Z EL s.vm s.heap s₂.vm s₂.heap ∧ ReturnedEndW s o s₂ L K N
variable {K N : Nat} {Qf : Option Value → Heap → List Loc → Prop}
theorem OEndsH.st {S S' : State} (k : ∀ t, Steps p.tables e below S' t → Steps p.tables e below S t) (h : OEndsH p e below Z EL s K N Qf S') : OEndsH p e below Z EL s K N Qf S := by
  obtain ⟨s2, o, h1, r⟩ := h
  exact ⟨s2, o, k _ h1, r⟩
theorem OEndsH.cast {g g' : JFrame} (q : g = g') (k : OEndsH p e below Z EL s K N Qf (T.setTop g')) : OEndsH p e below Z EL s K N Qf (T.setTop g) := q ▸ k
theorem OEndsH.ret (X : Stand p l e R (s.setVm vm0) m args below meth c T locs cells slots) (hx : p.tables.exec = Jvm.exec) (hZ : Z.Warmed39 vm0) (hEL : EW Z a0 EL) (eT : T.heap = h) {k0 : Nat} (hS : s.Since vm0 k0) (hk : k0 ≤ h.size) (A : CHr Z EL s.vm s.heap vm0 h)
    {pc : Nat} {Ls : Array Slot} {w : Value} {t : FieldType} {i : Instr} {rest : List Value} (hret : meth.sig.returnType = some t) (hlk : meth.locks = false) (hn : narrow t w = w)
    (hi : (i = .ireturn ∧ (t = .int ∨ t = .boolean ∨ t = .byte ∨ t = .char ∨ t = .short) ∧ ∃ z, w = .int z) ∨ (i = .lreturn ∧ t = .long ∧ ∃ z, w = .long z) ∨ (i = .dreturn ∧ t = .double ∧ ∃ z, w = .double z) ∨ (i = .freturn ∧ t = .float ∧ ∃ z, w = .float z) ∨ (i = .areturn ∧ t.isReference = true ∧ w.isRef = true))
    (hd : decode c.code pc = .ok (i, 1)) (hc : cells ≤ K) (hs : slots ≤ N) (q : Qf (some w) h locs) : OEndsH p e below Z EL s K N Qf (T.setTop (mkF m pc Ls (w :: rest))) := by
  obtain ⟨fs, hr, hrun, hended, hW, hsame⟩ := X.leave (v := some w) (fun h => by rw [hret] at h; cases h) hlk
  subst eT
  obtain ⟨q1, q2, q3⟩ := hS.ended hW hk hsame
  have B := A.trans (CHv.at X hZ hEL A.1)
  exact ⟨_, _, retOut X hx hret hn hi hd hr, hrun, hended, _, _, rfl, q, B, ⟨_, rfl⟩, q1, q2, q3.mono hc hs⟩
theorem OEndsH.retV (X : Stand p l e R (s.setVm vm0) m args below meth c T locs cells slots) (hx : p.tables.exec = Jvm.exec) (hZ : Z.Warmed39 vm0) (hEL : EW Z a0 EL) (eT : T.heap = h) {k0 : Nat} (hS : s.Since vm0 k0) (hk : k0 ≤ h.size) (A : CHr Z EL s.vm s.heap vm0 h)
    {pc : Nat} {Ls : Array Slot} (hret : meth.sig.returnType = none) (hlk : meth.locks = false)
    (hd : decode c.code pc = .ok (.return_, 1)) (hc : cells ≤ K) (hs : slots ≤ N) (q : Qf none h locs) : OEndsH p e below Z EL s K N Qf (T.setTop (mkF m pc Ls [])) := by
  obtain ⟨fs, hr, hrun, hended, hW, hsame⟩ := X.leave (v := none) (fun _ => rfl) hlk
  subst eT
  obtain ⟨q1, q2, q3⟩ := hS.ended hW hk hsame
  have B := A.trans (CHv.at X hZ hEL A.1)
  exact ⟨_, _, X.returnOut hx hret hd hr, hrun, hended, _, _, rfl, q, B, ⟨_, rfl⟩, q1, q2, q3.mono hc hs⟩
/-- a contract whose body may intern; ss: the objects that stand ahead of it and that it writes, none of them a constant's -/
def ConH (l : Launch) (Z : State) (EL : List (String × Nat)) (y : MethodName) (bytes : ByteArray) (maxL : Nat) (ret : Option FieldType) (ws : List Cond) (rm : Room) (as' : Array Value) (h0 : Heap) (ss : List Addr) (Q : Option Value → Heap → List Loc → Prop) : Prop :=
  MetFree l y (head1 (Cond.code y bytes maxL ret :: ws) rm) (fun a U => a = as' ∧ Z.Warmed39 U.vm ∧ U.heap = h0 ∧ CHv Z EL U.vm h0 ∧ ∀ x ∈ ss, Safe Z EL U.vm h0 x) (fun _ _ _ _ _ => True) (fun _ U o U' => ∃ v L, o = .returned v ∧ Q v U'.heap L ∧ CHr Z EL U.vm U.heap U'.vm U'.heap ∧ ReturnedEndW U o U' L rm.cells rm.slots)
variable {y : MethodName} {bytes : ByteArray} {maxL : Nat} {ret : Option FieldType} {ws : List Cond} {rm : Room} {as' : Array Value} {h0 : Heap} {ss : List Addr} {Q : Option Value → Heap → List Loc → Prop}
theorem ConH.walk (hpl : plainFor y = true) (body : ∀ (p : Program) (e : Env) (s : State) (vm0 : Vm) (k0 : Nat) (m : MethodId) (below : List Frame) (meth : Method) (c : Code) (T : State), Stand p l e rm (s.setVm vm0) m as' below meth c T [] 0 0 → s.Since vm0 k0 → k0 ≤ h0.size → p.tables.exec = Jvm.exec → Z.Warmed39 vm0 → c.code = bytes → c.maxLocals = maxL →
      vm0.findClass y.cls = some m.cls → meth.name = y.name → meth.sig.returnType = ret → meth.locks = false → T.heap = h0 → CHr Z EL s.vm s.heap vm0 h0 → (∀ x ∈ ss, Safe Z EL vm0 h0 x) → OEndsH p e below Z EL s rm.cells rm.slots Q (T.setTop (entryFrame m as' maxL))) : ConH l Z EL y bytes maxL ret ws rm as' h0 ss Q := by
  refine MetFree.of_bodySF hpl hisR ?_
  intro p e s m args below meth c s₁ Bd hml0 hP hK
  obtain ⟨rfl, hZ, hh, hC, hs⟩ := hP
  have e1 : s₁.heap = h0 := by rw [← hh, Bd.state]; rfl
  exact body p e s s.vm 0 m below meth c s₁ (Stand.of_body Bd) ((State.WarmedH.refl s).since 0) (Nat.zero_le _) Bd.exec hZ Bd.bytes hml0 (findClass_of_methodNamed Bd.named) (name_of_methodNamed Bd.named Bd.method).1 Bd.returns Bd.notSynchronized e1 (by rw [hh]; exact CHr.refl hC) hs
/-- who pays a call that may intern -/
def SBH (l : Launch) (Z : State) (EL : List (String × Nat)) (R : Room) (p : Program) (e : Env) (below : List Frame) (s : State) (vm0 : Vm) (args : Array Value) (y : MethodName) (len W : Nat) (as' : Array Value) (h : Heap) (Q : Option Value → Heap → List Loc → Prop) (kc ks : Nat) : Prop :=
  BackS l R p e below (s.setVm vm0) args y len W (fun A a => a = as' ∧ A.U.heap = h ∧ A.cells + kc ≤ R.cells ∧ A.slots + ks ≤ R.slots) (fun A _ v B => ∃ L, Q v B.U.heap L ∧ B.locs = A.locs ++ L ∧ B.cells = A.cells + kc ∧ B.slots = A.slots + ks ∧ CHr Z EL vm0 h B.U.vm B.U.heap)
theorem ConH.sb {len W : Nat} (hM : ConH l Z EL y bytes maxL ret [] rm as' h ss Q) (hZ : Z.Warmed39 vm0) (wc : (Cond.code y bytes maxL ret).before a0 Z = true) (wz : (Cond.initialized y.cls).before a0 Z = true) (hf : rm.frames + 1 ≤ R.frames) (hl : W + (maxL + 11) + rm.locals ≤ R.locals) (hEL : EW Z a0 EL) (H : CHv Z EL vm0 h) (hss : ∀ x ∈ ss, x < h.size ∧ Safe Z EL vm0 h x) :
    SBH l Z EL R p e below s vm0 args y len W as' h Q rm.cells rm.slots :=
  BackS.of_freeW (bytes := bytes) (maxL := maxL) (ret := ret) (E := fun _ first o t L k n => k = rm.cells ∧ n = rm.slots ∧ (∃ v, o = .returned v ∧ Q v t.heap L) ∧ CHr Z EL first.vm first.heap t.vm t.heap) hM hf hl
    (fun m meth c A a Y hp => have hU : Z.Warmed39 A.U.vm := wtrans (s := s.setVm vm0) hZ Y.warmed
      ⟨by show (Cond.and _ .tt).before a A.U = true; rw [Cond.before_and, mv hU wc]; rfl, mv hU wc, mv hU wz, hp.2.2.1, hp.2.2.2⟩)
    (fun m meth c A a g mk Y hp => ⟨hp.1, wtrans (s := s.setVm vm0) hZ Y.warmed, hp.2.1, (CHv.at Y hZ hEL H).1, fun x hx => (CHv.at Y hZ hEL H).safe (hss x hx).1 (hss x hx).2⟩) (fun _ _ _ _ _ _ _ _ _ => trivial)
    (fun _ _ _ _ ⟨v, L, h1, h2, h3, h4⟩ => ⟨L, _, _, h4, rfl, rfl, ⟨v, h1, h2⟩, h3⟩)
    (fun m meth c A a g mk v t L k n Y hp _ _ ⟨e1, e2, ⟨v', e3, e4⟩, e5⟩ => by
      cases e3; subst e1 e2
      refine ⟨L, e4, rfl, rfl, rfl, (CHv.at Y hZ hEL H).trans ?_⟩
      rw [← hp.2.1]; exact e5)
theorem specH (X : Stand p l e R (s.setVm vm0) m args below meth c T locs cells slots) (hx : p.tables.exec = Jvm.exec) (hZ : Z.Warmed39 vm0) {own : String} {index : Nat} {y : MethodName} {bytes : ByteArray} {maxL : Nat} (hy1 : y.name = "<init>")
    (hown : vm0.findClass own = some m.cls) (w1 : (Cond.methodLink own index y).before a0 Z = true) (w2 : (Cond.instanceMethod y).before a0 Z = true)
    (w4 : (Cond.code y bytes maxL none).before a0 Z = true) (hy : y.cls ≠ "java/lang/invoke/MethodHandle" ∧ y.cls ≠ "java/lang/invoke/VarHandle") {a : Addr} {argsL rest : List Value} {W kc ks : Nat} (hK : SBH l Z EL R p e below s vm0 args y 3 W (.ref a :: argsL).toArray h Q kc ks) (eT : T.heap = h) {k0 : Nat} (hS : s.Since vm0 k0) (hk : k0 ≤ h.size)
    {g : JFrame} (hg : g.method = m) (hsize : g.locals.size = c.maxLocals) (hlen : ∀ sig, parseMethodDescriptor y.desc = some sig → argsL.length = sig.parameters.length)
    (hstack : g.stack = argsL.reverse ++ .ref a :: rest) (hW : 2 * g.monitorRoom + (rest.map fun v => v.category).sum ≤ W) (hdg : decode c.code g.pc = .ok (.invokespecial index, 3)) (hc : cells + kc ≤ R.cells) (hs : slots + ks ≤ R.slots) :
    ∃ (v : Option Value) (T' : State) (h' : Heap) (L : List Loc) (vm1 : Vm) (k1 : Nat), Stand p l e R (s.setVm vm1) m args below meth c T' (locs ++ L) (cells + kc) (slots + ks) ∧ T'.heap = h' ∧ Q v h' L ∧ s.Since vm1 k1 ∧ k1 ≤ h'.size ∧ Z.Warmed39 vm1 ∧ vm1.findClass own = some m.cls ∧ CHr Z EL vm0 h vm1 h' ∧
      ∀ target, Steps p.tables e below (T'.setTop { g with pc := g.pc + 3, stack := v.toList ++ rest }) target → Steps p.tables e below (T.setTop g) target := by
  obtain ⟨v, vm, ⟨T', L', k', n'⟩, -, X', hS', hgr, ⟨L, hQ, l1, y1, z1, A⟩, st⟩ := X.specialBackS hx hy1 hown (mvT (s := s.setVm vm0) hZ w1) (mvT (s := s.setVm vm0) hZ w2) (mvT (s := s.setVm vm0) hZ w4) hy hK hg hsize (Steps.refl _) hlen hstack hW hdg (fun _ _ => ⟨rfl, eT, hc, hs⟩)
  dsimp only [Pt.U, Pt.locs, Pt.cells, Pt.slots] at X' l1 y1 z1 st hQ hS' hgr A
  subst l1 y1 z1 eT
  exact ⟨v, T', _, L, T'.vm, _, X', rfl, hQ, hS.trans hS' (Nat.le_trans hk hgr), Nat.le_refl _, State.Warmed39.trans (t := s.setVm vm0) hZ hS'.1, by rw [hS'.1.alike.findClass]; exact hown, A, fun _ k => st.trans k⟩
end OwnH
end Jvm.RoadKit
namespace Jvm.RoadKit
open Sem ClassFile Op Lib Jvm.Stand Jvm.Free Jvm.LawKit
section OwnJ
variable {p : Program} {e : Env} {below : List Frame} {P : State → Prop} {S S' : State}
/-- the walk from S comes to a place where P stands (two roads may meet there) -/
def OJ (p : Program) (e : Env) (below : List Frame) (P : State → Prop) (S : State) : Prop := ∃ S', P S' ∧ ∀ t, Steps p.tables e below S' t → Steps p.tables e below S t
theorem OJ.st (k : ∀ t, Steps p.tables e below S' t → Steps p.tables e below S t) (h : OJ p e below P S') : OJ p e below P S := by
  obtain ⟨s2, h1, h2⟩ := h
  exact ⟨s2, h1, fun t q => k t (h2 t q)⟩
theorem OJ.here (h : P S) : OJ p e below P S := ⟨S, h, fun _ q => q⟩
end OwnJ
end Jvm.RoadKit
/- laws to paste: pair_says, narrow_ch (cut by pick.py; bodies as the Statement names them) -/
namespace Jvm.Pilot.@@N@@
namespace StrChars
open Jvm Sem ClassFile Op Lib Jvm.Stand Jvm.Free.XT Jvm.Free.ALB Jvm.Free.JM Jvm.Free
open Jvm.Lib.Cold (StaticIs)
/-- the byte that i2b leaves of a char -/
def lo8 (x : Int32) : Int32 := x.toInt8.toInt32
end StrChars
namespace StrChars
open Jvm Sem ClassFile Op Lib Jvm.Stand Jvm.Free.XT Jvm.Free.ALB Jvm.Free.JM Jvm.Free
open Jvm.Lib.Cold (StaticIs)
def hi8 (x : Int32) : Int32 := lo8 (x >>> ((8 : Int32) &&& 31))
/-- what StringUTF16.getChar makes of two bytes -/
def pairCh (u v : Int32) : Int32 := (((u &&& 255) <<< ((0 : Int32) &&& 31)) ||| ((v &&& 255) <<< ((8 : Int32) &&& 31))).toUInt32.toUInt16.toUInt32.toInt32
theorem lo8_and (x : Int32) : (lo8 x &&& 255).toBitVec.toNat = x.toBitVec.toNat % 256 := by
  have h : (lo8 x).toBitVec = (x.toBitVec.signExtend 8).signExtend 32 := by rw [lo8, Int8.toBitVec_toInt32, Int32.toBitVec_toInt8]
  rw [Int32.toBitVec_and, BitVec.toNat_and, h]
  have e : ((x.toBitVec.signExtend 8).signExtend 32).toNat % 256 = x.toBitVec.toNat % 256 := by
    rw [BitVec.toNat_signExtend]
    have hlt := x.toBitVec.isLt
    simp only [BitVec.toNat_setWidth, BitVec.toNat_signExtend]
    split <;> split <;> omega
  rw [← e]
  exact Nat.and_two_pow_sub_one_eq_mod _ 8
theorem pair_says {c : Int32} (h0 : ¬ c < 0) (h1 : ¬ 65535 < c) : pairCh (lo8 c) (hi8 c) = c := by
  rw [Int32.lt_iff_toInt_lt] at h0 h1
  have e0 : (0 : Int32).toInt = 0 := rfl
  have e1 : (65535 : Int32).toInt = 65535 := rfl
  have hc : c.toInt = c.toBitVec.toNat := by
    have := c.toBitVec.isLt
    have e : c.toInt = c.toBitVec.toInt := rfl
    rw [e] at h0 h1
    rw [e]
    rw [BitVec.toInt_eq_toNat_cond] at h0 h1 ⊢
    split at h0 <;> split <;> omega
  have hn : c.toBitVec.toNat < 65536 := by omega
  have a1 := lo8_and c
  have a2 : (hi8 c &&& 255).toBitVec.toNat = c.toBitVec.toNat / 256 := by
    rw [hi8, lo8_and]
    have e : ((8 : Int32) &&& 31) = 8 := by decide
    rw [e, Int32.toBitVec_shiftRight]
    have e2 : ((8 : Int32).toBitVec.smod 32) = 8#32 := by decide
    rw [e2, BitVec.sshiftRight_eq', BitVec.toNat_sshiftRight_of_msb_false (by rw [BitVec.msb_eq_false_iff_two_mul_lt]; omega)]
    show c.toBitVec.toNat >>> 8 % 256 = _
    rw [Nat.shiftRight_eq_div_pow]
    omega
  unfold pairCh
  apply Int32.toBitVec_inj.mp
  apply BitVec.eq_of_toNat_eq
  have f0 : ((0 : Int32) &&& 31) = 0 := by decide
  have f8 : ((8 : Int32) &&& 31) = 8 := by decide
  rw [f0, f8]
  have g : (((lo8 c &&& 255) <<< (0 : Int32)) ||| ((hi8 c &&& 255) <<< (8 : Int32))).toBitVec.toNat = c.toBitVec.toNat := by
    rw [Int32.toBitVec_or, Int32.toBitVec_shiftLeft, Int32.toBitVec_shiftLeft]
    have s0 : ((0 : Int32).toBitVec.smod 32) = 0#32 := by decide
    have s8 : ((8 : Int32).toBitVec.smod 32) = 8#32 := by decide
    rw [s0, s8, BitVec.toNat_or]
    simp only [BitVec.shiftLeft_eq', BitVec.toNat_shiftLeft, a1, a2]
    show (c.toBitVec.toNat % 256) <<< 0 % 2 ^ 32 ||| (c.toBitVec.toNat / 256) <<< 8 % 2 ^ 32 = _
    rw [Nat.shiftLeft_zero, Nat.mod_eq_of_lt (show c.toBitVec.toNat % 256 < 2 ^ 32 by omega), Nat.mod_eq_of_lt (show (c.toBitVec.toNat / 256) <<< 8 < 2 ^ 32 by rw [Nat.shiftLeft_eq]; omega), Nat.or_comm, ← Nat.shiftLeft_add_eq_or_of_lt (by omega), Nat.shiftLeft_eq]
    omega
  show BitVec.toNat (((((lo8 c &&& 255) <<< (0 : Int32)) ||| ((hi8 c &&& 255) <<< (8 : Int32))).toBitVec.setWidth 16).setWidth 32) = _
  rw [BitVec.toNat_setWidth, BitVec.toNat_setWidth, g]
  omega
end StrChars
namespace StrChars
open Jvm Sem ClassFile Op Lib Jvm.Stand Jvm.Free.XT Jvm.Free.ALB Jvm.Free.JM Jvm.Free
open Jvm.Lib.Cold (StaticIs)
theorem narrow_ch {c : Int32} (h0 : ¬ c < 0) (h1 : ¬ 65535 < c) : narrow .char (.int c) = .int c := by
  have q : narrow .char (.int (pairCh (lo8 c) (hi8 c))) = .int (pairCh (lo8 c) (hi8 c)) := narrow_c _
  rwa [pair_says h0 h1] at q
end StrChars
end Jvm.Pilot.@@N@@

namespace Jvm.Pilot.@@N@@
open Jvm Jvm.ClassFile Sem Op Lib Jvm.Free Jvm.Stand Jvm.LawKit Jvm.RoadKit Bundle Jvm.Pilot.@@N@@.Jvm.D
abbrev vi (n : Int32) : Slot := .val (.int n)
abbrev vj (n : Int64) : Slot := .val (.long n)
abbrev vr (a : Addr) : Slot := .val (.ref a)
theorem cat_i (n : Int32) : (Value.int n).category = 1 := rfl
theorem cat_j (n : Int64) : (Value.long n).category = 2 := rfl
theorem cat_r (a : Addr) : (Value.ref a).category = 1 := rfl
theorem cat_n : Value.null.category = 1 := rfl
theorem wq {Z : State} {a0 : Array Value} (hw : ∀ d ∈ tables_1, d.before a0 Z = true) (i : Nat) {d : Cond} (h : tables_1[i]? = some d) : d.before a0 Z = true := hw d (List.mem_of_getElem? h)
/-- what is said of the start -/
def Wd (Z : State) (a0 : Array Value) : Prop := (∀ d ∈ tables_1, d.before a0 Z = true) ∧ (∃ z : Int32, Sta Z Z.heap "java/lang/String" "COMPACT_STRINGS" "Z" (.int z) ∧ ¬ z = 0) ∧ (∃ w : Value, Sta Z Z.heap "jdk/internal/util/Preconditions" "SIOOBE_FORMATTER" "Ljava/util/function/BiFunction;" w ∧ w.isRef = true) ∧ Sta Z Z.heap "java/lang/StringUTF16" "$assertionsDisabled" "Z" (.int 1) ∧ Sta Z Z.heap "java/lang/StringUTF16" "HI_BYTE_SHIFT" "I" (.int 0) ∧ Sta Z Z.heap "java/lang/StringUTF16" "LO_BYTE_SHIFT" "I" (.int 8)
def EL : List (String × Nat) := [("java/lang/String", 7), ("com/example/exact_gate/exactgate/NamesRequireOneLinePinLaw", 19)]
theorem el_of {Z : State} {a0 : Array Value} (hw : ∀ d ∈ tables_1, d.before a0 Z = true) : EW Z a0 EL := (EW.cons (wq hw 84 rfl) (by decide) (EW.cons (wq hw 35 rfl) (by decide) EW.nil))
theorem words_sa : ∀ d ∈ Bundle.stringAtoms, d ∈ tables_1 := by decide +kernel
theorem b8_ne {c k : Int32} (h : ¬ c < 0 ∧ ¬ (255 : Int32) < c) (hk : ¬ k < 0 ∧ ¬ (127 : Int32) < k) (hn : ¬ c = k) : ¬ c.toInt8.toInt32 = k.toInt8.toInt32 := by
  obtain ⟨h1, h2⟩ := h
  obtain ⟨h3, h4⟩ := hk
  rw [Int32.lt_iff_toInt_lt] at h1 h2 h3 h4
  have e0 : (0 : Int32).toInt = 0 := rfl
  have e1 : (255 : Int32).toInt = 255 := rfl
  have e2 : (127 : Int32).toInt = 127 := rfl
  have q := c_i2b c
  have r := c_i2b k
  rw [← Int32.toInt_inj] at hn ⊢
  omega
theorem i2c16 {x : Int32} : ¬ x.toUInt32.toUInt16.toUInt32.toInt32 < 0 ∧ ¬ (65535 : Int32) < x.toUInt32.toUInt16.toUInt32.toInt32 := by
  have q := c_i2c x
  have e0 : (0 : Int32).toInt = 0 := rfl
  have e1 : (65535 : Int32).toInt = 65535 := rfl
  rw [Int32.lt_iff_toInt_lt, Int32.lt_iff_toInt_lt]
  omega
theorem nar16 {x : Int32} (h : ¬ x < 0 ∧ ¬ (65535 : Int32) < x) : nar .char x = x := by
  obtain ⟨h1, h2⟩ := h
  rw [Int32.lt_iff_toInt_lt] at h1 h2
  have e0 : (0 : Int32).toInt = 0 := rfl
  have e1 : (65535 : Int32).toInt = 65535 := rfl
  have q := c_i2c x
  show x.toUInt32.toUInt16.toUInt32.toInt32 = x
  apply Int32.toInt_inj.mp
  omega
theorem lt16 {x : Int32} (h : ¬ x < 0 ∧ ¬ (65535 : Int32) < x) (h2 : ¬ (255 : Int32) < x) : ¬ x < 0 ∧ ¬ (255 : Int32) < x := ⟨h.1, h2⟩
theorem gch {c : Int32} (h : ¬ c < 0 ∧ ¬ (65535 : Int32) < c) : ((c.toInt8.toInt32 &&& (255 : Int32)) ||| (((c >>> ((8 : Int32) &&& 31)).toInt8.toInt32 &&& (255 : Int32)) <<< ((8 : Int32) &&& 31))).toUInt32.toUInt16.toUInt32.toInt32 = c := by
  have q := StrChars.pair_says h.1 h.2
  unfold StrChars.pairCh at q
  rw [shl0] at q
  exact q
theorem not256 {c : Int32} (h : ¬ (127 : Int32) < c) : ¬ (255 : Int32) < c := fun q => h (Int32.lt_trans (by decide) q)
theorem lt64k {c : Int32} (h : ¬ (127 : Int32) < c) : c < 65536 := by
  rw [Int32.lt_iff_toInt_lt] at h ⊢
  have e1 : (127 : Int32).toInt = 127 := rfl
  have e2 : (65536 : Int32).toInt = 65536 := rfl
  omega
theorem mod4 (x : Int32) : (x &&& 2147483647) % 4 = 0 ∨ (x &&& 2147483647) % 4 = 1 ∨ (x &&& 2147483647) % 4 = 2 ∨ (x &&& 2147483647) % 4 = 3 := by
  have q := c_and x 2147483647 (by decide)
  have e1 : (2147483647 : Int32).toInt = 2147483647 := rfl
  have e4 : (4 : Int32).toInt = 4 := rfl
  have h := Int32.toInt_mod (x &&& 2147483647) 4
  rw [e4, Int.tmod_eq_emod_of_nonneg (by omega)] at h
  have r0 : (0 : Int32).toInt = 0 := rfl
  have r1 : (1 : Int32).toInt = 1 := rfl
  have r2 : (2 : Int32).toInt = 2 := rfl
  have r3 : (3 : Int32).toInt = 3 := rfl
  have hc : ((x &&& 2147483647) % 4).toInt = 0 ∨ ((x &&& 2147483647) % 4).toInt = 1 ∨ ((x &&& 2147483647) % 4).toInt = 2 ∨ ((x &&& 2147483647) % 4).toInt = 3 := by omega
  rcases hc with h | h | h | h
  · exact Or.inl (Int32.toInt_inj.mp (h.trans r0.symm))
  · exact Or.inr (Or.inl (Int32.toInt_inj.mp (h.trans r1.symm)))
  · exact Or.inr (Or.inr (Or.inl (Int32.toInt_inj.mp (h.trans r2.symm))))
  · exact Or.inr (Or.inr (Or.inr (Int32.toInt_inj.mp (h.trans r3.symm))))
-- com/example/exact_gate/exactgate/NamesRequireOneLinePinLaw.isBreak:(C)Z
def Q_isBr (Z : State) (x : Int32) (h0 : Heap) (v : Option Value) (h : Heap) (L : List Loc) : Prop := ∃ r : Int32, v = some (.int r) ∧ (r = 1 ∨ (r = 0 ∧ ¬ x = 10 ∧ ¬ x = 13)) ∧ Fr Z.heap.size L ∧ h = h0
theorem ef_isBr (m : MethodId) (x : Int32) : entryFrame m #[(.int x)] 1 = mkF m 0 #[vi x] [] := by first | (simp [entryFrame, mkF, argsToLocals, Value.category, vi, vj, vr]; done) | rfl
theorem pn_0 : plainName "com/example/exact_gate/exactgate/NamesRequireOneLinePinLaw" = true := by first | (simp [plainName, overriddenIn]; done) | decide +kernel
theorem d_2_0 : decode method_2_code 0 = .ok (.iload_n 0, 1) := by decide +kernel
theorem d_2_1 : decode method_2_code 1 = .ok (.bipush 10, 2) := by decide +kernel
theorem d_2_3 : decode method_2_code 3 = .ok (.if_icmp .eq 9, 3) := by decide +kernel
theorem d_2_12 : decode method_2_code 12 = .ok (.iconst 1, 1) := by decide +kernel
theorem d_2_13 : decode method_2_code 13 = .ok (.goto 4, 3) := by decide +kernel
theorem d_2_17 : decode method_2_code 17 = .ok (.ireturn, 1) := by decide +kernel
theorem d_2_6 : decode method_2_code 6 = .ok (.iload_n 0, 1) := by decide +kernel
theorem d_2_7 : decode method_2_code 7 = .ok (.bipush 13, 2) := by decide +kernel
theorem d_2_9 : decode method_2_code 9 = .ok (.if_icmp .ne 7, 3) := by decide +kernel
theorem d_2_16 : decode method_2_code 16 = .ok (.iconst 0, 1) := by decide +kernel
set_option maxRecDepth 65536 in
set_option maxHeartbeats 40000000 in
theorem rm_isBr (l : Launch) {Z : State} {a0 : Array Value} (hD : Wd Z a0) (x : Int32) {h0 : Heap} (O0 : Ext Z.heap h0) :
    Con l Z (⟨"com/example/exact_gate/exactgate/NamesRequireOneLinePinLaw", "isBreak", "(C)Z"⟩ : MethodName) method_2_code 1 (some .boolean) [] ({ frames := 0, cells := 0, slots := 0, locals := 0 } : Room) #[(.int x)] h0 (Q_isBr Z x h0) := by
  refine Con.walk (plainFor_of_name pn_0) ?_
  intro p e s m below meth c T0 X0 hx hZ hby hml hown hnm hret hlk e0
  obtain ⟨hw, ⟨cz, S_CS, hcz⟩, ⟨sf, S_SF, hsf⟩, S_AD, S_HI, S_LO⟩ := id hD
  have N0 := Fr.nil Z.heap.size
  refine OEnds.cast (ef_isBr m x) ?_
  refine OEnds.st (S' := T0.setTop (mkF m 3 #[vi x] [(.int 10), (.int x)])) (fun _ k => ?_) ?_
  · refine XS.iloadN X0.here hx rfl (hb hby d_2_0) rfl ?_
    refine XS.bipush X0.here hx rfl (hb hby d_2_1) ?_
    exact k
  rcases Classical.em (x = (10 : Int32)) with q0 | q0
  · refine OEnds.st (S' := T0.setTop (mkF m 17 #[vi x] [(.int 1)])) (fun _ k => ?_) ?_
    · refine XS.icmpYes X0.here hx rfl (pc0 := 3) (pc' := 12) rfl (hb hby d_2_3) rfl (teq q0).1 (by decide) (by decide) ?_
      refine XS.iconst X0.here hx rfl (hb hby d_2_12) ?_
      refine XS.goto X0.here hx rfl (pc0 := 13) (pc' := 17) rfl (hb hby d_2_13) (by decide) (by decide) ?_
      exact k
    exact OEnds.ret X0 hx hret hlk (by decide) (Or.inl ⟨rfl, by simp, _, rfl⟩) (hb hby d_2_17) (by decide) (by decide) (by rw [e0]; exact ⟨_, rfl, Or.inl rfl, N0, rfl⟩)
  · refine OEnds.st (S' := T0.setTop (mkF m 9 #[vi x] [(.int 13), (.int x)])) (fun _ k => ?_) ?_
    · refine XS.icmpNo X0.here hx rfl (hb hby d_2_3) rfl (feq q0).1 ?_
      refine XS.iloadN X0.here hx rfl (hb hby d_2_6) rfl ?_
      refine XS.bipush X0.here hx rfl (hb hby d_2_7) ?_
      exact k
    rcases Classical.em (x = (13 : Int32)) with q1 | q1
    · refine OEnds.st (S' := T0.setTop (mkF m 17 #[vi x] [(.int 1)])) (fun _ k => ?_) ?_
      · refine XS.icmpNo X0.here hx rfl (hb hby d_2_9) rfl (teq q1).2 ?_
        refine XS.iconst X0.here hx rfl (hb hby d_2_12) ?_
        refine XS.goto X0.here hx rfl (pc0 := 13) (pc' := 17) rfl (hb hby d_2_13) (by decide) (by decide) ?_
        exact k
      exact OEnds.ret X0 hx hret hlk (by decide) (Or.inl ⟨rfl, by simp, _, rfl⟩) (hb hby d_2_17) (by decide) (by decide) (by rw [e0]; exact ⟨_, rfl, Or.inl rfl, N0, rfl⟩)
    · refine OEnds.st (S' := T0.setTop (mkF m 17 #[vi x] [(.int 0)])) (fun _ k => ?_) ?_
      · refine XS.icmpYes X0.here hx rfl (pc0 := 9) (pc' := 16) rfl (hb hby d_2_9) rfl (feq q1).2 (by decide) (by decide) ?_
        refine XS.iconst X0.here hx rfl (hb hby d_2_16) ?_
        exact k
      exact OEnds.ret X0 hx hret hlk (by decide) (Or.inl ⟨rfl, by simp, _, rfl⟩) (hb hby d_2_17) (by decide) (by decide) (by rw [e0]; exact ⟨_, rfl, Or.inr ⟨rfl, q0, q1⟩, N0, rfl⟩)
-- java/lang/String.coder:()B
def Q_coder0 (Z : State) (a : Addr) (h0 : Heap) (v : Option Value) (h : Heap) (L : List Loc) : Prop := v = some (.int 0) ∧ Fr Z.heap.size L ∧ h = h0
theorem ef_coder0 (m : MethodId) (a : Addr) : entryFrame m #[(.ref a)] 1 = mkF m 0 #[vr a] [] := by first | (simp [entryFrame, mkF, argsToLocals, Value.category, vi, vj, vr]; done) | rfl
theorem pn_1 : plainName "java/lang/String" = true := by first | (simp [plainName, overriddenIn]; done) | decide +kernel
theorem d_jdk_42_152_0 : decode jdk_42_method_152_code 0 = .ok (.getstatic 38, 3) := by decide +kernel
theorem d_jdk_42_152_3 : decode jdk_42_method_152_code 3 = .ok (.ifCond .eq 10, 3) := by decide +kernel
theorem d_jdk_42_152_6 : decode jdk_42_method_152_code 6 = .ok (.aload_n 0, 1) := by decide +kernel
theorem d_jdk_42_152_7 : decode jdk_42_method_152_code 7 = .ok (.getfield 15, 3) := by decide +kernel
theorem d_jdk_42_152_10 : decode jdk_42_method_152_code 10 = .ok (.goto 4, 3) := by decide +kernel
theorem d_jdk_42_152_14 : decode jdk_42_method_152_code 14 = .ok (.ireturn, 1) := by decide +kernel
set_option maxRecDepth 65536 in
set_option maxHeartbeats 40000000 in
theorem rm_coder0 (l : Launch) {Z : State} {a0 : Array Value} (hD : Wd Z a0) (a : Addr) {h0 : Heap} (O0 : Ext Z.heap h0) (F_coder_a : Fld Z h0 a "java/lang/String" "coder" "B" (.int 0)) :
    Con l Z (⟨"java/lang/String", "coder", "()B"⟩ : MethodName) jdk_42_method_152_code 1 (some .byte) [] ({ frames := 0, cells := 0, slots := 0, locals := 0 } : Room) #[(.ref a)] h0 (Q_coder0 Z a h0) := by
  refine Con.walk (plainFor_of_name pn_1) ?_
  intro p e s m below meth c T0 X0 hx hZ hby hml hown hnm hret hlk e0
  obtain ⟨hw, ⟨cz, S_CS, hcz⟩, ⟨sf, S_SF, hsf⟩, S_AD, S_HI, S_LO⟩ := id hD
  have N0 := Fr.nil Z.heap.size
  refine OEnds.cast (ef_coder0 m a) ?_
  obtain ⟨T1, X1, e1, st1⟩ := getS2 X0 hx hZ hown (host := "") (Or.inl (wq hw 19 rfl)) Via.refl e0 (S_CS.ext O0) (g := (mkF m 0 #[vr a] [])) rfl (hb hby d_jdk_42_152_0)
  refine OEnds.st st1 ?_
  refine OEnds.st (S' := T1.setTop (mkF m 7 #[vr a] [(.ref a)])) (fun _ k => ?_) ?_
  · refine XS.ifNo X1.here hx rfl (hb hby d_jdk_42_152_3) rfl ((if0 _ _).trans (feq hcz).1) ?_
    refine XS.aloadN X1.here hx rfl (hb hby d_jdk_42_152_6) rfl rfl ?_
    exact k
  obtain ⟨T2, X2, e2, st2⟩ := getF X1 hx hZ hown (host := "") (Or.inl (wq hw 31 rfl)) Via.refl e1 F_coder_a (g := (mkF m 7 #[vr a] [(.ref a)])) rfl rfl (hb hby d_jdk_42_152_7)
  refine OEnds.st st2 ?_
  refine OEnds.st (S' := T2.setTop (mkF m 14 #[vr a] [(.int 0)])) (fun _ k => ?_) ?_
  · refine XS.goto X2.here hx rfl (pc0 := 10) (pc' := 14) rfl (hb hby d_jdk_42_152_10) (by decide) (by decide) ?_
    exact k
  exact OEnds.ret X2 hx hret hlk (by decide) (Or.inl ⟨rfl, by simp, _, rfl⟩) (hb hby d_jdk_42_152_14) (by decide) (by decide) (by rw [e2]; exact ⟨rfl, N0, rfl⟩)
-- java/lang/String.coder:()B
def Q_coder1 (Z : State) (a : Addr) (h0 : Heap) (v : Option Value) (h : Heap) (L : List Loc) : Prop := v = some (.int 1) ∧ Fr Z.heap.size L ∧ h = h0
theorem ef_coder1 (m : MethodId) (a : Addr) : entryFrame m #[(.ref a)] 1 = mkF m 0 #[vr a] [] := by first | (simp [entryFrame, mkF, argsToLocals, Value.category, vi, vj, vr]; done) | rfl
set_option maxRecDepth 65536 in
set_option maxHeartbeats 40000000 in
theorem rm_coder1 (l : Launch) {Z : State} {a0 : Array Value} (hD : Wd Z a0) (a : Addr) {h0 : Heap} (O0 : Ext Z.heap h0) (F_coder_a : Fld Z h0 a "java/lang/String" "coder" "B" (.int 1)) :
    Con l Z (⟨"java/lang/String", "coder", "()B"⟩ : MethodName) jdk_42_method_152_code 1 (some .byte) [] ({ frames := 0, cells := 0, slots := 0, locals := 0 } : Room) #[(.ref a)] h0 (Q_coder1 Z a h0) := by
  refine Con.walk (plainFor_of_name pn_1) ?_
  intro p e s m below meth c T0 X0 hx hZ hby hml hown hnm hret hlk e0
  obtain ⟨hw, ⟨cz, S_CS, hcz⟩, ⟨sf, S_SF, hsf⟩, S_AD, S_HI, S_LO⟩ := id hD
  have N0 := Fr.nil Z.heap.size
  refine OEnds.cast (ef_coder1 m a) ?_
  obtain ⟨T1, X1, e1, st1⟩ := getS2 X0 hx hZ hown (host := "") (Or.inl (wq hw 19 rfl)) Via.refl e0 (S_CS.ext O0) (g := (mkF m 0 #[vr a] [])) rfl (hb hby d_jdk_42_152_0)
  refine OEnds.st st1 ?_
  refine OEnds.st (S' := T1.setTop (mkF m 7 #[vr a] [(.ref a)])) (fun _ k => ?_) ?_
  · refine XS.ifNo X1.here hx rfl (hb hby d_jdk_42_152_3) rfl ((if0 _ _).trans (feq hcz).1) ?_
    refine XS.aloadN X1.here hx rfl (hb hby d_jdk_42_152_6) rfl rfl ?_
    exact k
  obtain ⟨T2, X2, e2, st2⟩ := getF X1 hx hZ hown (host := "") (Or.inl (wq hw 31 rfl)) Via.refl e1 F_coder_a (g := (mkF m 7 #[vr a] [(.ref a)])) rfl rfl (hb hby d_jdk_42_152_7)
  refine OEnds.st st2 ?_
  refine OEnds.st (S' := T2.setTop (mkF m 14 #[vr a] [(.int 1)])) (fun _ k => ?_) ?_
  · refine XS.goto X2.here hx rfl (pc0 := 10) (pc' := 14) rfl (hb hby d_jdk_42_152_10) (by decide) (by decide) ?_
    exact k
  exact OEnds.ret X2 hx hret hlk (by decide) (Or.inl ⟨rfl, by simp, _, rfl⟩) (hb hby d_jdk_42_152_14) (by decide) (by decide) (by rw [e2]; exact ⟨rfl, N0, rfl⟩)
-- java/lang/String.isLatin1:()Z
def Q_isLat0 (Z : State) (a : Addr) (h0 : Heap) (v : Option Value) (h : Heap) (L : List Loc) : Prop := v = some (.int 1) ∧ Fr Z.heap.size L ∧ h = h0
theorem ef_isLat0 (m : MethodId) (a : Addr) : entryFrame m #[(.ref a)] 1 = mkF m 0 #[vr a] [] := by first | (simp [entryFrame, mkF, argsToLocals, Value.category, vi, vj, vr]; done) | rfl
theorem d_jdk_42_154_0 : decode jdk_42_method_154_code 0 = .ok (.getstatic 38, 3) := by decide +kernel
theorem d_jdk_42_154_3 : decode jdk_42_method_154_code 3 = .ok (.ifCond .eq 14, 3) := by decide +kernel
theorem d_jdk_42_154_6 : decode jdk_42_method_154_code 6 = .ok (.aload_n 0, 1) := by decide +kernel
theorem d_jdk_42_154_7 : decode jdk_42_method_154_code 7 = .ok (.getfield 15, 3) := by decide +kernel
theorem d_jdk_42_154_10 : decode jdk_42_method_154_code 10 = .ok (.ifCond .ne 7, 3) := by decide +kernel
theorem d_jdk_42_154_13 : decode jdk_42_method_154_code 13 = .ok (.iconst 1, 1) := by decide +kernel
theorem d_jdk_42_154_14 : decode jdk_42_method_154_code 14 = .ok (.goto 4, 3) := by decide +kernel
theorem d_jdk_42_154_18 : decode jdk_42_method_154_code 18 = .ok (.ireturn, 1) := by decide +kernel
set_option maxRecDepth 65536 in
set_option maxHeartbeats 40000000 in
theorem rm_isLat0 (l : Launch) {Z : State} {a0 : Array Value} (hD : Wd Z a0) (a : Addr) {h0 : Heap} (O0 : Ext Z.heap h0) (F_coder_a : Fld Z h0 a "java/lang/String" "coder" "B" (.int 0)) :
    Con l Z (⟨"java/lang/String", "isLatin1", "()Z"⟩ : MethodName) jdk_42_method_154_code 1 (some .boolean) [] ({ frames := 0, cells := 0, slots := 0, locals := 0 } : Room) #[(.ref a)] h0 (Q_isLat0 Z a h0) := by
  refine Con.walk (plainFor_of_name pn_1) ?_
  intro p e s m below meth c T0 X0 hx hZ hby hml hown hnm hret hlk e0
  obtain ⟨hw, ⟨cz, S_CS, hcz⟩, ⟨sf, S_SF, hsf⟩, S_AD, S_HI, S_LO⟩ := id hD
  have N0 := Fr.nil Z.heap.size
  refine OEnds.cast (ef_isLat0 m a) ?_
  obtain ⟨T1, X1, e1, st1⟩ := getS2 X0 hx hZ hown (host := "") (Or.inl (wq hw 19 rfl)) Via.refl e0 (S_CS.ext O0) (g := (mkF m 0 #[vr a] [])) rfl (hb hby d_jdk_42_154_0)
  refine OEnds.st st1 ?_
  refine OEnds.st (S' := T1.setTop (mkF m 7 #[vr a] [(.ref a)])) (fun _ k => ?_) ?_
  · refine XS.ifNo X1.here hx rfl (hb hby d_jdk_42_154_3) rfl ((if0 _ _).trans (feq hcz).1) ?_
    refine XS.aloadN X1.here hx rfl (hb hby d_jdk_42_154_6) rfl rfl ?_
    exact k
  obtain ⟨T2, X2, e2, st2⟩ := getF X1 hx hZ hown (host := "") (Or.inl (wq hw 31 rfl)) Via.refl e1 F_coder_a (g := (mkF m 7 #[vr a] [(.ref a)])) rfl rfl (hb hby d_jdk_42_154_7)
  refine OEnds.st st2 ?_
  refine OEnds.st (S' := T2.setTop (mkF m 18 #[vr a] [(.int 1)])) (fun _ k => ?_) ?_
  · refine XS.ifNo X2.here hx rfl (hb hby d_jdk_42_154_10) rfl ((if0 _ _).trans (teq (by decide)).2) ?_
    refine XS.iconst X2.here hx rfl (hb hby d_jdk_42_154_13) ?_
    refine XS.goto X2.here hx rfl (pc0 := 14) (pc' := 18) rfl (hb hby d_jdk_42_154_14) (by decide) (by decide) ?_
    exact k
  exact OEnds.ret X2 hx hret hlk (by decide) (Or.inl ⟨rfl, by simp, _, rfl⟩) (hb hby d_jdk_42_154_18) (by decide) (by decide) (by rw [e2]; exact ⟨rfl, N0, rfl⟩)
-- java/lang/String.isLatin1:()Z
def Q_isLat1 (Z : State) (a : Addr) (h0 : Heap) (v : Option Value) (h : Heap) (L : List Loc) : Prop := v = some (.int 0) ∧ Fr Z.heap.size L ∧ h = h0
theorem ef_isLat1 (m : MethodId) (a : Addr) : entryFrame m #[(.ref a)] 1 = mkF m 0 #[vr a] [] := by first | (simp [entryFrame, mkF, argsToLocals, Value.category, vi, vj, vr]; done) | rfl
theorem d_jdk_42_154_17 : decode jdk_42_method_154_code 17 = .ok (.iconst 0, 1) := by decide +kernel
set_option maxRecDepth 65536 in
set_option maxHeartbeats 40000000 in
theorem rm_isLat1 (l : Launch) {Z : State} {a0 : Array Value} (hD : Wd Z a0) (a : Addr) {h0 : Heap} (O0 : Ext Z.heap h0) (F_coder_a : Fld Z h0 a "java/lang/String" "coder" "B" (.int 1)) :
    Con l Z (⟨"java/lang/String", "isLatin1", "()Z"⟩ : MethodName) jdk_42_method_154_code 1 (some .boolean) [] ({ frames := 0, cells := 0, slots := 0, locals := 0 } : Room) #[(.ref a)] h0 (Q_isLat1 Z a h0) := by
  refine Con.walk (plainFor_of_name pn_1) ?_
  intro p e s m below meth c T0 X0 hx hZ hby hml hown hnm hret hlk e0
  obtain ⟨hw, ⟨cz, S_CS, hcz⟩, ⟨sf, S_SF, hsf⟩, S_AD, S_HI, S_LO⟩ := id hD
  have N0 := Fr.nil Z.heap.size
  refine OEnds.cast (ef_isLat1 m a) ?_
  obtain ⟨T1, X1, e1, st1⟩ := getS2 X0 hx hZ hown (host := "") (Or.inl (wq hw 19 rfl)) Via.refl e0 (S_CS.ext O0) (g := (mkF m 0 #[vr a] [])) rfl (hb hby d_jdk_42_154_0)
  refine OEnds.st st1 ?_
  refine OEnds.st (S' := T1.setTop (mkF m 7 #[vr a] [(.ref a)])) (fun _ k => ?_) ?_
  · refine XS.ifNo X1.here hx rfl (hb hby d_jdk_42_154_3) rfl ((if0 _ _).trans (feq hcz).1) ?_
    refine XS.aloadN X1.here hx rfl (hb hby d_jdk_42_154_6) rfl rfl ?_
    exact k
  obtain ⟨T2, X2, e2, st2⟩ := getF X1 hx hZ hown (host := "") (Or.inl (wq hw 31 rfl)) Via.refl e1 F_coder_a (g := (mkF m 7 #[vr a] [(.ref a)])) rfl rfl (hb hby d_jdk_42_154_7)
  refine OEnds.st st2 ?_
  refine OEnds.st (S' := T2.setTop (mkF m 18 #[vr a] [(.int 0)])) (fun _ k => ?_) ?_
  · refine XS.ifYes X2.here hx rfl (pc0 := 10) (pc' := 17) rfl (hb hby d_jdk_42_154_10) rfl ((if0 _ _).trans (feq (by decide)).2) (by decide) (by decide) ?_
    refine XS.iconst X2.here hx rfl (hb hby d_jdk_42_154_17) ?_
    exact k
  exact OEnds.ret X2 hx hret hlk (by decide) (Or.inl ⟨rfl, by simp, _, rfl⟩) (hb hby d_jdk_42_154_18) (by decide) (by decide) (by rw [e2]; exact ⟨rfl, N0, rfl⟩)
-- java/lang/Math.max:(II)I
def Q_max00 (Z : State)  (h0 : Heap) (v : Option Value) (h : Heap) (L : List Loc) : Prop := v = some (.int 0) ∧ Fr Z.heap.size L ∧ h = h0
theorem ef_max00 (m : MethodId)  : entryFrame m #[(.int 0), (.int 0)] 2 = mkF m 0 #[vi 0, vi 0] [] := by first | (simp [entryFrame, mkF, argsToLocals, Value.category, vi, vj, vr]; done) | rfl
theorem d_jdk_29_65_0 : decode jdk_29_method_65_code 0 = .ok (.iload_n 0, 1) := by decide +kernel
theorem d_jdk_29_65_1 : decode jdk_29_method_65_code 1 = .ok (.iload_n 1, 1) := by decide +kernel
theorem d_jdk_29_65_2 : decode jdk_29_method_65_code 2 = .ok (.if_icmp .lt 7, 3) := by decide +kernel
theorem d_jdk_29_65_5 : decode jdk_29_method_65_code 5 = .ok (.iload_n 0, 1) := by decide +kernel
theorem d_jdk_29_65_6 : decode jdk_29_method_65_code 6 = .ok (.goto 4, 3) := by decide +kernel
theorem d_jdk_29_65_10 : decode jdk_29_method_65_code 10 = .ok (.ireturn, 1) := by decide +kernel
set_option maxRecDepth 65536 in
set_option maxHeartbeats 40000000 in
theorem rm_max00 (l : Launch) {Z : State} {a0 : Array Value} (hD : Wd Z a0)  {h0 : Heap} (O0 : Ext Z.heap h0) :
    Con l Z (⟨"java/lang/Math", "max", "(II)I"⟩ : MethodName) jdk_29_method_65_code 2 (some .int) [] ({ frames := 0, cells := 0, slots := 0, locals := 0 } : Room) #[(.int 0), (.int 0)] h0 (Q_max00 Z  h0) := by
  refine Con.walk (Jvm.Free.JP.mathPlain rfl (by decide +kernel)) ?_
  intro p e s m below meth c T0 X0 hx hZ hby hml hown hnm hret hlk e0
  obtain ⟨hw, ⟨cz, S_CS, hcz⟩, ⟨sf, S_SF, hsf⟩, S_AD, S_HI, S_LO⟩ := id hD
  have N0 := Fr.nil Z.heap.size
  refine OEnds.cast (ef_max00 m ) ?_
  refine OEnds.st (S' := T0.setTop (mkF m 10 #[vi 0, vi 0] [(.int 0)])) (fun _ k => ?_) ?_
  · refine XS.iloadN X0.here hx rfl (hb hby d_jdk_29_65_0) rfl ?_
    refine XS.iloadN X0.here hx rfl (hb hby d_jdk_29_65_1) rfl ?_
    refine XS.icmpNo X0.here hx rfl (hb hby d_jdk_29_65_2) rfl (flt (by decide)).1 ?_
    refine XS.iloadN X0.here hx rfl (hb hby d_jdk_29_65_5) rfl ?_
    show Steps p.tables e below (T0.setTop (mkF m 6 #[vi 0, vi 0] [(.int 0)])) _
    refine XS.goto X0.here hx rfl (pc0 := 6) (pc' := 10) rfl (hb hby d_jdk_29_65_6) (by decide) (by decide) ?_
    exact k
  exact OEnds.ret X0 hx hret hlk rfl (Or.inl ⟨rfl, by simp, _, rfl⟩) (hb hby d_jdk_29_65_10) (by decide) (by decide) (by rw [e0]; exact ⟨rfl, N0, rfl⟩)
-- java/lang/Math.min:(II)I
def Q_minSame (Z : State) (x : Int32) (h0 : Heap) (v : Option Value) (h : Heap) (L : List Loc) : Prop := v = some (.int x) ∧ Fr Z.heap.size L ∧ h = h0
theorem ef_minSame (m : MethodId) (x : Int32) : entryFrame m #[(.int x), (.int x)] 2 = mkF m 0 #[vi x, vi x] [] := by first | (simp [entryFrame, mkF, argsToLocals, Value.category, vi, vj, vr]; done) | rfl
theorem d_jdk_29_69_0 : decode jdk_29_method_69_code 0 = .ok (.iload_n 0, 1) := by decide +kernel
theorem d_jdk_29_69_1 : decode jdk_29_method_69_code 1 = .ok (.iload_n 1, 1) := by decide +kernel
theorem d_jdk_29_69_2 : decode jdk_29_method_69_code 2 = .ok (.if_icmp .gt 7, 3) := by decide +kernel
theorem d_jdk_29_69_5 : decode jdk_29_method_69_code 5 = .ok (.iload_n 0, 1) := by decide +kernel
theorem d_jdk_29_69_6 : decode jdk_29_method_69_code 6 = .ok (.goto 4, 3) := by decide +kernel
theorem d_jdk_29_69_10 : decode jdk_29_method_69_code 10 = .ok (.ireturn, 1) := by decide +kernel
set_option maxRecDepth 65536 in
set_option maxHeartbeats 40000000 in
theorem rm_minSame (l : Launch) {Z : State} {a0 : Array Value} (hD : Wd Z a0) (x : Int32) {h0 : Heap} (O0 : Ext Z.heap h0) :
    Con l Z (⟨"java/lang/Math", "min", "(II)I"⟩ : MethodName) jdk_29_method_69_code 2 (some .int) [] ({ frames := 0, cells := 0, slots := 0, locals := 0 } : Room) #[(.int x), (.int x)] h0 (Q_minSame Z x h0) := by
  refine Con.walk (Jvm.Free.JP.mathPlain rfl (by decide +kernel)) ?_
  intro p e s m below meth c T0 X0 hx hZ hby hml hown hnm hret hlk e0
  obtain ⟨hw, ⟨cz, S_CS, hcz⟩, ⟨sf, S_SF, hsf⟩, S_AD, S_HI, S_LO⟩ := id hD
  have N0 := Fr.nil Z.heap.size
  refine OEnds.cast (ef_minSame m x) ?_
  refine OEnds.st (S' := T0.setTop (mkF m 10 #[vi x, vi x] [(.int x)])) (fun _ k => ?_) ?_
  · refine XS.iloadN X0.here hx rfl (hb hby d_jdk_29_69_0) rfl ?_
    refine XS.iloadN X0.here hx rfl (hb hby d_jdk_29_69_1) rfl ?_
    refine XS.icmpNo X0.here hx rfl (hb hby d_jdk_29_69_2) rfl (flt Int32.lt_irrefl).2.2.1 ?_
    refine XS.iloadN X0.here hx rfl (hb hby d_jdk_29_69_5) rfl ?_
    show Steps p.tables e below (T0.setTop (mkF m 6 #[vi x, vi x] [(.int x)])) _
    refine XS.goto X0.here hx rfl (pc0 := 6) (pc' := 10) rfl (hb hby d_jdk_29_69_6) (by decide) (by decide) ?_
    exact k
  exact OEnds.ret X0 hx hret hlk rfl (Or.inl ⟨rfl, by simp, _, rfl⟩) (hb hby d_jdk_29_69_10) (by decide) (by decide) (by rw [e0]; exact ⟨rfl, N0, rfl⟩)
-- java/lang/StringLatin1.canEncode:(I)Z
def Q_canEnc (Z : State) (cc : Int32) (h0 : Heap) (v : Option Value) (h : Heap) (L : List Loc) : Prop := v = some (.int 1) ∧ Fr Z.heap.size L ∧ h = h0
theorem ef_canEnc (m : MethodId) (cc : Int32) : entryFrame m #[(.int cc)] 1 = mkF m 0 #[vi cc] [] := by first | (simp [entryFrame, mkF, argsToLocals, Value.category, vi, vj, vr]; done) | rfl
theorem pn_2 : plainName "java/lang/StringLatin1" = true := by first | (simp [plainName, overriddenIn]; done) | decide +kernel
theorem d_jdk_43_4_0 : decode jdk_43_method_4_code 0 = .ok (.iload_n 0, 1) := by decide +kernel
theorem d_jdk_43_4_1 : decode jdk_43_method_4_code 1 = .ok (.ifCond .lt 14, 3) := by decide +kernel
theorem d_jdk_43_4_4 : decode jdk_43_method_4_code 4 = .ok (.iload_n 0, 1) := by decide +kernel
theorem d_jdk_43_4_5 : decode jdk_43_method_4_code 5 = .ok (.sipush 255, 3) := by decide +kernel
theorem d_jdk_43_4_8 : decode jdk_43_method_4_code 8 = .ok (.if_icmp .gt 7, 3) := by decide +kernel
theorem d_jdk_43_4_11 : decode jdk_43_method_4_code 11 = .ok (.iconst 1, 1) := by decide +kernel
theorem d_jdk_43_4_12 : decode jdk_43_method_4_code 12 = .ok (.goto 4, 3) := by decide +kernel
theorem d_jdk_43_4_16 : decode jdk_43_method_4_code 16 = .ok (.ireturn, 1) := by decide +kernel
set_option maxRecDepth 65536 in
set_option maxHeartbeats 40000000 in
theorem rm_canEnc (l : Launch) {Z : State} {a0 : Array Value} (hD : Wd Z a0) (cc : Int32) {h0 : Heap} (O0 : Ext Z.heap h0) (hc : ¬ cc < 0 ∧ ¬ (127 : Int32) < cc) :
    Con l Z (⟨"java/lang/StringLatin1", "canEncode", "(I)Z"⟩ : MethodName) jdk_43_method_4_code 1 (some .boolean) [] ({ frames := 0, cells := 0, slots := 0, locals := 0 } : Room) #[(.int cc)] h0 (Q_canEnc Z cc h0) := by
  refine Con.walk (plainFor_of_name pn_2) ?_
  intro p e s m below meth c T0 X0 hx hZ hby hml hown hnm hret hlk e0
  obtain ⟨hw, ⟨cz, S_CS, hcz⟩, ⟨sf, S_SF, hsf⟩, S_AD, S_HI, S_LO⟩ := id hD
  have N0 := Fr.nil Z.heap.size
  refine OEnds.cast (ef_canEnc m cc) ?_
  refine OEnds.st (S' := T0.setTop (mkF m 16 #[vi cc] [(.int 1)])) (fun _ k => ?_) ?_
  · refine XS.iloadN X0.here hx rfl (hb hby d_jdk_43_4_0) rfl ?_
    refine XS.ifNo X0.here hx rfl (hb hby d_jdk_43_4_1) rfl ((if0 _ _).trans (flt hc.1).1) ?_
    refine XS.iloadN X0.here hx rfl (hb hby d_jdk_43_4_4) rfl ?_
    refine XS.sipush X0.here hx rfl (hb hby d_jdk_43_4_5) ?_
    show Steps p.tables e below (T0.setTop (mkF m 8 #[vi cc] [(.int 255), (.int cc)])) _
    refine XS.icmpNo X0.here hx rfl (hb hby d_jdk_43_4_8) rfl (flt (not256 hc.2)).2.2.1 ?_
    refine XS.iconst X0.here hx rfl (hb hby d_jdk_43_4_11) ?_
    refine XS.goto X0.here hx rfl (pc0 := 12) (pc' := 16) rfl (hb hby d_jdk_43_4_12) (by decide) (by decide) ?_
    exact k
  exact OEnds.ret X0 hx hret hlk (by decide) (Or.inl ⟨rfl, by simp, _, rfl⟩) (hb hby d_jdk_43_4_16) (by decide) (by decide) (by rw [e0]; exact ⟨rfl, N0, rfl⟩)
-- jdk/internal/util/Preconditions.checkFromToIndex:(IIILjava/util/function/BiFunction;)I
def Q_chkFT1 (Z : State) (f : Value) (h0 : Heap) (v : Option Value) (h : Heap) (L : List Loc) : Prop := v = some (.int 0) ∧ Fr Z.heap.size L ∧ h = h0
theorem ef_chkFT1 (m : MethodId) (f : Value) (hr_f : f.category = 1) : entryFrame m #[(.int 0), (.int 1), (.int 1), f] 4 = mkF m 0 #[vi 0, vi 1, vi 1, .val f] [] := by first | (simp [entryFrame, mkF, argsToLocals, cat_i, cat_j, cat_r, cat_n, vi, vj, vr, hr_f]; done) | rfl
theorem pn_3 : plainName "jdk/internal/util/Preconditions" = true := by first | (simp [plainName, overriddenIn]; done) | decide +kernel
theorem d_jdk_41_12_0 : decode jdk_41_method_12_code 0 = .ok (.iload_n 0, 1) := by decide +kernel
theorem d_jdk_41_12_1 : decode jdk_41_method_12_code 1 = .ok (.ifCond .lt 13, 3) := by decide +kernel
theorem d_jdk_41_12_4 : decode jdk_41_method_12_code 4 = .ok (.iload_n 0, 1) := by decide +kernel
theorem d_jdk_41_12_5 : decode jdk_41_method_12_code 5 = .ok (.iload_n 1, 1) := by decide +kernel
theorem d_jdk_41_12_6 : decode jdk_41_method_12_code 6 = .ok (.if_icmp .gt 8, 3) := by decide +kernel
theorem d_jdk_41_12_9 : decode jdk_41_method_12_code 9 = .ok (.iload_n 1, 1) := by decide +kernel
theorem d_jdk_41_12_10 : decode jdk_41_method_12_code 10 = .ok (.iload_n 2, 1) := by decide +kernel
theorem d_jdk_41_12_11 : decode jdk_41_method_12_code 11 = .ok (.if_icmp .le 11, 3) := by decide +kernel
theorem d_jdk_41_12_22 : decode jdk_41_method_12_code 22 = .ok (.iload_n 0, 1) := by decide +kernel
theorem d_jdk_41_12_23 : decode jdk_41_method_12_code 23 = .ok (.ireturn, 1) := by decide +kernel
set_option maxRecDepth 65536 in
set_option maxHeartbeats 40000000 in
theorem rm_chkFT1 (l : Launch) {Z : State} {a0 : Array Value} (hD : Wd Z a0) (f : Value) {h0 : Heap} (O0 : Ext Z.heap h0) (hf : f.isRef = true) :
    Con l Z (⟨"jdk/internal/util/Preconditions", "checkFromToIndex", "(IIILjava/util/function/BiFunction;)I"⟩ : MethodName) jdk_41_method_12_code 4 (some .int) [] ({ frames := 0, cells := 0, slots := 0, locals := 0 } : Room) #[(.int 0), (.int 1), (.int 1), f] h0 (Q_chkFT1 Z f h0) := by
  refine Con.walk (plainFor_of_name pn_3) ?_
  intro p e s m below meth c T0 X0 hx hZ hby hml hown hnm hret hlk e0
  obtain ⟨hw, ⟨cz, S_CS, hcz⟩, ⟨sf, S_SF, hsf⟩, S_AD, S_HI, S_LO⟩ := id hD
  have N0 := Fr.nil Z.heap.size
  refine OEnds.cast (ef_chkFT1 m f (Jvm.Free.XT.cat1 hf)) ?_
  refine OEnds.st (S' := T0.setTop (mkF m 23 #[vi 0, vi 1, vi 1, .val f] [(.int 0)])) (fun _ k => ?_) ?_
  · refine XS.iloadN X0.here hx rfl (hb hby d_jdk_41_12_0) rfl ?_
    refine XS.ifNo X0.here hx rfl (hb hby d_jdk_41_12_1) rfl ((if0 _ _).trans (flt (by decide)).1) ?_
    refine XS.iloadN X0.here hx rfl (hb hby d_jdk_41_12_4) rfl ?_
    refine XS.iloadN X0.here hx rfl (hb hby d_jdk_41_12_5) rfl ?_
    show Steps p.tables e below (T0.setTop (mkF m 6 #[vi 0, vi 1, vi 1, .val f] [(.int 1), (.int 0)])) _
    refine XS.icmpNo X0.here hx rfl (hb hby d_jdk_41_12_6) rfl (flt (by decide)).2.2.1 ?_
    refine XS.iloadN X0.here hx rfl (hb hby d_jdk_41_12_9) rfl ?_
    refine XS.iloadN X0.here hx rfl (hb hby d_jdk_41_12_10) rfl ?_
    refine XS.icmpYes X0.here hx rfl (pc0 := 11) (pc' := 22) rfl (hb hby d_jdk_41_12_11) rfl (flt (by decide)).2.2.2 (by decide) (by decide) ?_
    show Steps p.tables e below (T0.setTop (mkF m 22 #[vi 0, vi 1, vi 1, .val f] [])) _
    refine XS.iloadN X0.here hx rfl (hb hby d_jdk_41_12_22) rfl ?_
    exact k
  exact OEnds.ret X0 hx hret hlk rfl (Or.inl ⟨rfl, by simp, _, rfl⟩) (hb hby d_jdk_41_12_23) (by decide) (by decide) (by rw [e0]; exact ⟨rfl, N0, rfl⟩)
-- java/lang/String.checkBoundsBeginEnd:(III)V
def Q_chkBE1 (Z : State)  (h0 : Heap) (v : Option Value) (h : Heap) (L : List Loc) : Prop := v = none ∧ Fr Z.heap.size L ∧ h = h0
theorem ef_chkBE1 (m : MethodId)  : entryFrame m #[(.int 0), (.int 1), (.int 1)] 3 = mkF m 0 #[vi 0, vi 1, vi 1] [] := by first | (simp [entryFrame, mkF, argsToLocals, Value.category, vi, vj, vr]; done) | rfl
theorem d_jdk_42_158_0 : decode jdk_42_method_158_code 0 = .ok (.iload_n 0, 1) := by decide +kernel
theorem d_jdk_42_158_1 : decode jdk_42_method_158_code 1 = .ok (.iload_n 1, 1) := by decide +kernel
theorem d_jdk_42_158_2 : decode jdk_42_method_158_code 2 = .ok (.iload_n 2, 1) := by decide +kernel
theorem d_jdk_42_158_3 : decode jdk_42_method_158_code 3 = .ok (.getstatic 1053, 3) := by decide +kernel
theorem d_jdk_42_158_6 : decode jdk_42_method_158_code 6 = .ok (.invokestatic 1062, 3) := by decide +kernel
theorem pd_0 : parseMethodDescriptor "(IIILjava/util/function/BiFunction;)I" = some ⟨[.int, .int, .int, (.object "java/util/function/BiFunction")], some .int⟩ := by decide +kernel
theorem d_jdk_42_158_9 : decode jdk_42_method_158_code 9 = .ok (.pop, 1) := by decide +kernel
theorem d_jdk_42_158_10 : decode jdk_42_method_158_code 10 = .ok (.return_, 1) := by decide +kernel
set_option maxRecDepth 65536 in
set_option maxHeartbeats 40000000 in
theorem rm_chkBE1 (l : Launch) {Z : State} {a0 : Array Value} (hD : Wd Z a0)  {h0 : Heap} (O0 : Ext Z.heap h0) :
    Con l Z (⟨"java/lang/String", "checkBoundsBeginEnd", "(III)V"⟩ : MethodName) jdk_42_method_158_code 3 none [] ({ frames := 1, cells := 0, slots := 0, locals := 15 } : Room) #[(.int 0), (.int 1), (.int 1)] h0 (Q_chkBE1 Z  h0) := by
  refine Con.walk (plainFor_of_name pn_1) ?_
  intro p e s m below meth c T0 X0 hx hZ hby hml hown hnm hret hlk e0
  obtain ⟨hw, ⟨cz, S_CS, hcz⟩, ⟨sf, S_SF, hsf⟩, S_AD, S_HI, S_LO⟩ := id hD
  have N0 := Fr.nil Z.heap.size
  refine OEnds.cast (ef_chkBE1 m ) ?_
  refine OEnds.st (S' := T0.setTop (mkF m 3 #[vi 0, vi 1, vi 1] [(.int 1), (.int 1), (.int 0)])) (fun _ k => ?_) ?_
  · refine XS.iloadN X0.here hx rfl (hb hby d_jdk_42_158_0) rfl ?_
    refine XS.iloadN X0.here hx rfl (hb hby d_jdk_42_158_1) rfl ?_
    refine XS.iloadN X0.here hx rfl (hb hby d_jdk_42_158_2) rfl ?_
    exact k
  obtain ⟨T1, X1, e1, st1⟩ := getS2 X0 hx hZ hown (host := "") (Or.inl (wq hw 122 rfl)) Via.refl e0 (S_SF.ext O0) (g := (mkF m 3 #[vi 0, vi 1, vi 1] [(.int 1), (.int 1), (.int 0)])) rfl (hb hby d_jdk_42_158_3)
  refine OEnds.st st1 ?_
  obtain ⟨_, T2, h2, L2, X2, e2, hQ2, st2⟩ := callC X1 hx hZ hown (wq hw 124 rfl) (wq hw 125 rfl) (wq hw 123 rfl) (wq hw 126 rfl) (by decide) (kc := 0) (ks := 0) (Con.sb (W := 0) (rm_chkFT1 l hD sf O0 hsf) hZ (wq hw 126 rfl) (wq hw 123 rfl) (by decide) (by decide)) e1 (g := (mkF m 6 #[vi 0, vi 1, vi 1] [sf, (.int 1), (.int 1), (.int 0)])) rfl (by rw [hml]; rfl) (argsL := [(.int 0), (.int 1), (.int 1), sf]) (rest := []) (lenOf pd_0 rfl) rfl (by show 2 * 0 + _ ≤ _; exact Nat.le_of_eq rfl) (hb hby d_jdk_42_158_6) (by decide) (by decide)
  obtain ⟨rfl, Nq2, Hq2⟩ := hQ2
  refine OEnds.st st2 ?_
  replace N0 := Fr.app N0 Nq2
  replace e2 := e2.trans Hq2
  refine OEnds.st (S' := T2.setTop (mkF m 10 #[vi 0, vi 1, vi 1] [])) (fun _ k => ?_) ?_
  · refine XS.pop X2.here hx rfl (hb hby d_jdk_42_158_9) rfl rfl ?_
    exact k
  exact OEnds.retV X2 hx hret hlk (hb hby d_jdk_42_158_10) (by decide) (by decide) (by rw [e2]; exact ⟨rfl, N0, rfl⟩)
-- jdk/internal/util/Preconditions.checkFromToIndex:(IIILjava/util/function/BiFunction;)I
def Q_chkFT2 (Z : State) (f : Value) (h0 : Heap) (v : Option Value) (h : Heap) (L : List Loc) : Prop := v = some (.int 0) ∧ Fr Z.heap.size L ∧ h = h0
theorem ef_chkFT2 (m : MethodId) (f : Value) (hr_f : f.category = 1) : entryFrame m #[(.int 0), (.int 2), (.int 2), f] 4 = mkF m 0 #[vi 0, vi 2, vi 2, .val f] [] := by first | (simp [entryFrame, mkF, argsToLocals, cat_i, cat_j, cat_r, cat_n, vi, vj, vr, hr_f]; done) | rfl
set_option maxRecDepth 65536 in
set_option maxHeartbeats 40000000 in
theorem rm_chkFT2 (l : Launch) {Z : State} {a0 : Array Value} (hD : Wd Z a0) (f : Value) {h0 : Heap} (O0 : Ext Z.heap h0) (hf : f.isRef = true) :
    Con l Z (⟨"jdk/internal/util/Preconditions", "checkFromToIndex", "(IIILjava/util/function/BiFunction;)I"⟩ : MethodName) jdk_41_method_12_code 4 (some .int) [] ({ frames := 0, cells := 0, slots := 0, locals := 0 } : Room) #[(.int 0), (.int 2), (.int 2), f] h0 (Q_chkFT2 Z f h0) := by
  refine Con.walk (plainFor_of_name pn_3) ?_
  intro p e s m below meth c T0 X0 hx hZ hby hml hown hnm hret hlk e0
  obtain ⟨hw, ⟨cz, S_CS, hcz⟩, ⟨sf, S_SF, hsf⟩, S_AD, S_HI, S_LO⟩ := id hD
  have N0 := Fr.nil Z.heap.size
  refine OEnds.cast (ef_chkFT2 m f (Jvm.Free.XT.cat1 hf)) ?_
  refine OEnds.st (S' := T0.setTop (mkF m 23 #[vi 0, vi 2, vi 2, .val f] [(.int 0)])) (fun _ k => ?_) ?_
  · refine XS.iloadN X0.here hx rfl (hb hby d_jdk_41_12_0) rfl ?_
    refine XS.ifNo X0.here hx rfl (hb hby d_jdk_41_12_1) rfl ((if0 _ _).trans (flt (by decide)).1) ?_
    refine XS.iloadN X0.here hx rfl (hb hby d_jdk_41_12_4) rfl ?_
    refine XS.iloadN X0.here hx rfl (hb hby d_jdk_41_12_5) rfl ?_
    show Steps p.tables e below (T0.setTop (mkF m 6 #[vi 0, vi 2, vi 2, .val f] [(.int 2), (.int 0)])) _
    refine XS.icmpNo X0.here hx rfl (hb hby d_jdk_41_12_6) rfl (flt (by decide)).2.2.1 ?_
    refine XS.iloadN X0.here hx rfl (hb hby d_jdk_41_12_9) rfl ?_
    refine XS.iloadN X0.here hx rfl (hb hby d_jdk_41_12_10) rfl ?_
    refine XS.icmpYes X0.here hx rfl (pc0 := 11) (pc' := 22) rfl (hb hby d_jdk_41_12_11) rfl (flt (by decide)).2.2.2 (by decide) (by decide) ?_
    show Steps p.tables e below (T0.setTop (mkF m 22 #[vi 0, vi 2, vi 2, .val f] [])) _
    refine XS.iloadN X0.here hx rfl (hb hby d_jdk_41_12_22) rfl ?_
    exact k
  exact OEnds.ret X0 hx hret hlk rfl (Or.inl ⟨rfl, by simp, _, rfl⟩) (hb hby d_jdk_41_12_23) (by decide) (by decide) (by rw [e0]; exact ⟨rfl, N0, rfl⟩)
-- java/lang/String.checkBoundsBeginEnd:(III)V
def Q_chkBE2 (Z : State)  (h0 : Heap) (v : Option Value) (h : Heap) (L : List Loc) : Prop := v = none ∧ Fr Z.heap.size L ∧ h = h0
theorem ef_chkBE2 (m : MethodId)  : entryFrame m #[(.int 0), (.int 2), (.int 2)] 3 = mkF m 0 #[vi 0, vi 2, vi 2] [] := by first | (simp [entryFrame, mkF, argsToLocals, Value.category, vi, vj, vr]; done) | rfl
set_option maxRecDepth 65536 in
set_option maxHeartbeats 40000000 in
theorem rm_chkBE2 (l : Launch) {Z : State} {a0 : Array Value} (hD : Wd Z a0)  {h0 : Heap} (O0 : Ext Z.heap h0) :
    Con l Z (⟨"java/lang/String", "checkBoundsBeginEnd", "(III)V"⟩ : MethodName) jdk_42_method_158_code 3 none [] ({ frames := 1, cells := 0, slots := 0, locals := 15 } : Room) #[(.int 0), (.int 2), (.int 2)] h0 (Q_chkBE2 Z  h0) := by
  refine Con.walk (plainFor_of_name pn_1) ?_
  intro p e s m below meth c T0 X0 hx hZ hby hml hown hnm hret hlk e0
  obtain ⟨hw, ⟨cz, S_CS, hcz⟩, ⟨sf, S_SF, hsf⟩, S_AD, S_HI, S_LO⟩ := id hD
  have N0 := Fr.nil Z.heap.size
  refine OEnds.cast (ef_chkBE2 m ) ?_
  refine OEnds.st (S' := T0.setTop (mkF m 3 #[vi 0, vi 2, vi 2] [(.int 2), (.int 2), (.int 0)])) (fun _ k => ?_) ?_
  · refine XS.iloadN X0.here hx rfl (hb hby d_jdk_42_158_0) rfl ?_
    refine XS.iloadN X0.here hx rfl (hb hby d_jdk_42_158_1) rfl ?_
    refine XS.iloadN X0.here hx rfl (hb hby d_jdk_42_158_2) rfl ?_
    exact k
  obtain ⟨T1, X1, e1, st1⟩ := getS2 X0 hx hZ hown (host := "") (Or.inl (wq hw 122 rfl)) Via.refl e0 (S_SF.ext O0) (g := (mkF m 3 #[vi 0, vi 2, vi 2] [(.int 2), (.int 2), (.int 0)])) rfl (hb hby d_jdk_42_158_3)
  refine OEnds.st st1 ?_
  obtain ⟨_, T2, h2, L2, X2, e2, hQ2, st2⟩ := callC X1 hx hZ hown (wq hw 124 rfl) (wq hw 125 rfl) (wq hw 123 rfl) (wq hw 126 rfl) (by decide) (kc := 0) (ks := 0) (Con.sb (W := 0) (rm_chkFT2 l hD sf O0 hsf) hZ (wq hw 126 rfl) (wq hw 123 rfl) (by decide) (by decide)) e1 (g := (mkF m 6 #[vi 0, vi 2, vi 2] [sf, (.int 2), (.int 2), (.int 0)])) rfl (by rw [hml]; rfl) (argsL := [(.int 0), (.int 2), (.int 2), sf]) (rest := []) (lenOf pd_0 rfl) rfl (by show 2 * 0 + _ ≤ _; exact Nat.le_of_eq rfl) (hb hby d_jdk_42_158_6) (by decide) (by decide)
  obtain ⟨rfl, Nq2, Hq2⟩ := hQ2
  refine OEnds.st st2 ?_
  replace N0 := Fr.app N0 Nq2
  replace e2 := e2.trans Hq2
  refine OEnds.st (S' := T2.setTop (mkF m 10 #[vi 0, vi 2, vi 2] [])) (fun _ k => ?_) ?_
  · refine XS.pop X2.here hx rfl (hb hby d_jdk_42_158_9) rfl rfl ?_
    exact k
  exact OEnds.retV X2 hx hret hlk (hb hby d_jdk_42_158_10) (by decide) (by decide) (by rw [e2]; exact ⟨rfl, N0, rfl⟩)
-- jdk/internal/util/Preconditions.checkFromToIndex:(IIILjava/util/function/BiFunction;)I
def Q_chkFT3 (Z : State) (f : Value) (h0 : Heap) (v : Option Value) (h : Heap) (L : List Loc) : Prop := v = some (.int 0) ∧ Fr Z.heap.size L ∧ h = h0
theorem ef_chkFT3 (m : MethodId) (f : Value) (hr_f : f.category = 1) : entryFrame m #[(.int 0), (.int 3), (.int 3), f] 4 = mkF m 0 #[vi 0, vi 3, vi 3, .val f] [] := by first | (simp [entryFrame, mkF, argsToLocals, cat_i, cat_j, cat_r, cat_n, vi, vj, vr, hr_f]; done) | rfl
set_option maxRecDepth 65536 in
set_option maxHeartbeats 40000000 in
theorem rm_chkFT3 (l : Launch) {Z : State} {a0 : Array Value} (hD : Wd Z a0) (f : Value) {h0 : Heap} (O0 : Ext Z.heap h0) (hf : f.isRef = true) :
    Con l Z (⟨"jdk/internal/util/Preconditions", "checkFromToIndex", "(IIILjava/util/function/BiFunction;)I"⟩ : MethodName) jdk_41_method_12_code 4 (some .int) [] ({ frames := 0, cells := 0, slots := 0, locals := 0 } : Room) #[(.int 0), (.int 3), (.int 3), f] h0 (Q_chkFT3 Z f h0) := by
  refine Con.walk (plainFor_of_name pn_3) ?_
  intro p e s m below meth c T0 X0 hx hZ hby hml hown hnm hret hlk e0
  obtain ⟨hw, ⟨cz, S_CS, hcz⟩, ⟨sf, S_SF, hsf⟩, S_AD, S_HI, S_LO⟩ := id hD
  have N0 := Fr.nil Z.heap.size
  refine OEnds.cast (ef_chkFT3 m f (Jvm.Free.XT.cat1 hf)) ?_
  refine OEnds.st (S' := T0.setTop (mkF m 23 #[vi 0, vi 3, vi 3, .val f] [(.int 0)])) (fun _ k => ?_) ?_
  · refine XS.iloadN X0.here hx rfl (hb hby d_jdk_41_12_0) rfl ?_
    refine XS.ifNo X0.here hx rfl (hb hby d_jdk_41_12_1) rfl ((if0 _ _).trans (flt (by decide)).1) ?_
    refine XS.iloadN X0.here hx rfl (hb hby d_jdk_41_12_4) rfl ?_
    refine XS.iloadN X0.here hx rfl (hb hby d_jdk_41_12_5) rfl ?_
    show Steps p.tables e below (T0.setTop (mkF m 6 #[vi 0, vi 3, vi 3, .val f] [(.int 3), (.int 0)])) _
    refine XS.icmpNo X0.here hx rfl (hb hby d_jdk_41_12_6) rfl (flt (by decide)).2.2.1 ?_
    refine XS.iloadN X0.here hx rfl (hb hby d_jdk_41_12_9) rfl ?_
    refine XS.iloadN X0.here hx rfl (hb hby d_jdk_41_12_10) rfl ?_
    refine XS.icmpYes X0.here hx rfl (pc0 := 11) (pc' := 22) rfl (hb hby d_jdk_41_12_11) rfl (flt (by decide)).2.2.2 (by decide) (by decide) ?_
    show Steps p.tables e below (T0.setTop (mkF m 22 #[vi 0, vi 3, vi 3, .val f] [])) _
    refine XS.iloadN X0.here hx rfl (hb hby d_jdk_41_12_22) rfl ?_
    exact k
  exact OEnds.ret X0 hx hret hlk rfl (Or.inl ⟨rfl, by simp, _, rfl⟩) (hb hby d_jdk_41_12_23) (by decide) (by decide) (by rw [e0]; exact ⟨rfl, N0, rfl⟩)
-- java/lang/String.checkBoundsBeginEnd:(III)V
def Q_chkBE3 (Z : State)  (h0 : Heap) (v : Option Value) (h : Heap) (L : List Loc) : Prop := v = none ∧ Fr Z.heap.size L ∧ h = h0
theorem ef_chkBE3 (m : MethodId)  : entryFrame m #[(.int 0), (.int 3), (.int 3)] 3 = mkF m 0 #[vi 0, vi 3, vi 3] [] := by first | (simp [entryFrame, mkF, argsToLocals, Value.category, vi, vj, vr]; done) | rfl
set_option maxRecDepth 65536 in
set_option maxHeartbeats 40000000 in
theorem rm_chkBE3 (l : Launch) {Z : State} {a0 : Array Value} (hD : Wd Z a0)  {h0 : Heap} (O0 : Ext Z.heap h0) :
    Con l Z (⟨"java/lang/String", "checkBoundsBeginEnd", "(III)V"⟩ : MethodName) jdk_42_method_158_code 3 none [] ({ frames := 1, cells := 0, slots := 0, locals := 15 } : Room) #[(.int 0), (.int 3), (.int 3)] h0 (Q_chkBE3 Z  h0) := by
  refine Con.walk (plainFor_of_name pn_1) ?_
  intro p e s m below meth c T0 X0 hx hZ hby hml hown hnm hret hlk e0
  obtain ⟨hw, ⟨cz, S_CS, hcz⟩, ⟨sf, S_SF, hsf⟩, S_AD, S_HI, S_LO⟩ := id hD
  have N0 := Fr.nil Z.heap.size
  refine OEnds.cast (ef_chkBE3 m ) ?_
  refine OEnds.st (S' := T0.setTop (mkF m 3 #[vi 0, vi 3, vi 3] [(.int 3), (.int 3), (.int 0)])) (fun _ k => ?_) ?_
  · refine XS.iloadN X0.here hx rfl (hb hby d_jdk_42_158_0) rfl ?_
    refine XS.iloadN X0.here hx rfl (hb hby d_jdk_42_158_1) rfl ?_
    refine XS.iloadN X0.here hx rfl (hb hby d_jdk_42_158_2) rfl ?_
    exact k
  obtain ⟨T1, X1, e1, st1⟩ := getS2 X0 hx hZ hown (host := "") (Or.inl (wq hw 122 rfl)) Via.refl e0 (S_SF.ext O0) (g := (mkF m 3 #[vi 0, vi 3, vi 3] [(.int 3), (.int 3), (.int 0)])) rfl (hb hby d_jdk_42_158_3)
  refine OEnds.st st1 ?_
  obtain ⟨_, T2, h2, L2, X2, e2, hQ2, st2⟩ := callC X1 hx hZ hown (wq hw 124 rfl) (wq hw 125 rfl) (wq hw 123 rfl) (wq hw 126 rfl) (by decide) (kc := 0) (ks := 0) (Con.sb (W := 0) (rm_chkFT3 l hD sf O0 hsf) hZ (wq hw 126 rfl) (wq hw 123 rfl) (by decide) (by decide)) e1 (g := (mkF m 6 #[vi 0, vi 3, vi 3] [sf, (.int 3), (.int 3), (.int 0)])) rfl (by rw [hml]; rfl) (argsL := [(.int 0), (.int 3), (.int 3), sf]) (rest := []) (lenOf pd_0 rfl) rfl (by show 2 * 0 + _ ≤ _; exact Nat.le_of_eq rfl) (hb hby d_jdk_42_158_6) (by decide) (by decide)
  obtain ⟨rfl, Nq2, Hq2⟩ := hQ2
  refine OEnds.st st2 ?_
  replace N0 := Fr.app N0 Nq2
  replace e2 := e2.trans Hq2
  refine OEnds.st (S' := T2.setTop (mkF m 10 #[vi 0, vi 3, vi 3] [])) (fun _ k => ?_) ?_
  · refine XS.pop X2.here hx rfl (hb hby d_jdk_42_158_9) rfl rfl ?_
    exact k
  exact OEnds.retV X2 hx hret hlk (hb hby d_jdk_42_158_10) (by decide) (by decide) (by rw [e2]; exact ⟨rfl, N0, rfl⟩)
-- java/lang/StringUTF16.compress:([CI[BII)I
def Q_comp2_1 (Z : State) (tc : Addr) (t : Addr) (kc k : ClassId) (x0 : Int32) (h0 : Heap) (v : Option Value) (h : Heap) (L : List Loc) : Prop := ∃ r : Int32, v = some (.int r) ∧ Fr Z.heap.size L ∧ Keep h0 h [t] ∧ ((r = 1 ∧ ¬ (255 : Int32) < x0 ∧ Arv Z h t k .byte (1 : Int32) [(.int (x0.toInt8.toInt32))] (.int 0)) ∨ (r = 0 ∧ (255 : Int32) < x0))
theorem ef_comp2_1 (m : MethodId) (tc : Addr) (t : Addr) : entryFrame m #[(.ref tc), (.int 0), (.ref t), (.int 0), (.int 1)] 7 = mkF m 0 #[vr tc, vi 0, vr t, vi 0, vi 1, .unset, .unset] [] := by first | (simp [entryFrame, mkF, argsToLocals, Value.category, vi, vj, vr]; done) | rfl
theorem pn_4 : plainName "java/lang/StringUTF16" = true := by first | (simp [plainName, overriddenIn]; done) | decide +kernel
theorem d_jdk_52_21_0 : decode jdk_52_method_21_code 0 = .ok (.iconst 0, 1) := by decide +kernel
theorem d_jdk_52_21_1 : decode jdk_52_method_21_code 1 = .ok (.istore 5, 2) := by decide +kernel
theorem d_jdk_52_21_3 : decode jdk_52_method_21_code 3 = .ok (.iload 5, 2) := by decide +kernel
theorem d_jdk_52_21_5 : decode jdk_52_method_21_code 5 = .ok (.iload 4, 2) := by decide +kernel
theorem d_jdk_52_21_7 : decode jdk_52_method_21_code 7 = .ok (.if_icmp .ge 37, 3) := by decide +kernel
theorem d_jdk_52_21_10 : decode jdk_52_method_21_code 10 = .ok (.aload_n 0, 1) := by decide +kernel
theorem d_jdk_52_21_11 : decode jdk_52_method_21_code 11 = .ok (.iload_n 1, 1) := by decide +kernel
theorem d_jdk_52_21_12 : decode jdk_52_method_21_code 12 = .ok (.caload, 1) := by decide +kernel
theorem d_jdk_52_21_13 : decode jdk_52_method_21_code 13 = .ok (.istore 6, 2) := by decide +kernel
theorem d_jdk_52_21_15 : decode jdk_52_method_21_code 15 = .ok (.iload 6, 2) := by decide +kernel
theorem d_jdk_52_21_17 : decode jdk_52_method_21_code 17 = .ok (.sipush 255, 3) := by decide +kernel
theorem d_jdk_52_21_20 : decode jdk_52_method_21_code 20 = .ok (.if_icmp .le 6, 3) := by decide +kernel
theorem d_jdk_52_21_23 : decode jdk_52_method_21_code 23 = .ok (.iload 5, 2) := by decide +kernel
theorem d_jdk_52_21_25 : decode jdk_52_method_21_code 25 = .ok (.ireturn, 1) := by decide +kernel
theorem d_jdk_52_21_26 : decode jdk_52_method_21_code 26 = .ok (.aload_n 2, 1) := by decide +kernel
theorem d_jdk_52_21_27 : decode jdk_52_method_21_code 27 = .ok (.iload_n 3, 1) := by decide +kernel
theorem d_jdk_52_21_28 : decode jdk_52_method_21_code 28 = .ok (.iload 6, 2) := by decide +kernel
theorem d_jdk_52_21_30 : decode jdk_52_method_21_code 30 = .ok (.i2b, 1) := by decide +kernel
theorem d_jdk_52_21_31 : decode jdk_52_method_21_code 31 = .ok (.bastore, 1) := by decide +kernel
theorem d_jdk_52_21_32 : decode jdk_52_method_21_code 32 = .ok (.iinc 1 1, 3) := by decide +kernel
theorem d_jdk_52_21_35 : decode jdk_52_method_21_code 35 = .ok (.iinc 3 1, 3) := by decide +kernel
theorem d_jdk_52_21_38 : decode jdk_52_method_21_code 38 = .ok (.iinc 5 1, 3) := by decide +kernel
theorem d_jdk_52_21_41 : decode jdk_52_method_21_code 41 = .ok (.goto (-38), 3) := by decide +kernel
theorem d_jdk_52_21_44 : decode jdk_52_method_21_code 44 = .ok (.iload 4, 2) := by decide +kernel
theorem d_jdk_52_21_46 : decode jdk_52_method_21_code 46 = .ok (.ireturn, 1) := by decide +kernel
set_option maxRecDepth 65536 in
set_option maxHeartbeats 40000000 in
theorem rm_comp2_1 (l : Launch) {Z : State} {a0 : Array Value} (hD : Wd Z a0) (tc : Addr) (t : Addr) (kc k : ClassId) (x0 : Int32) {h0 : Heap} (O0 : Ext Z.heap h0) (V_tc : Arv Z h0 tc kc .char (1 : Int32) [(.int x0)] (.int 0)) (V_t : Arv Z h0 t k .byte (1 : Int32) [(.int 0)] (.int 0)) (ge_t : Z.heap.size ≤ t) (ne_tc_t : tc ≠ t) :
    Con l Z (⟨"java/lang/StringUTF16", "compress", "([CI[BII)I"⟩ : MethodName) jdk_52_method_21_code 7 (some .int) [] ({ frames := 0, cells := 0, slots := 0, locals := 0 } : Room) #[(.ref tc), (.int 0), (.ref t), (.int 0), (.int 1)] h0 (Q_comp2_1 Z tc t kc k x0 h0) := by
  refine Con.walk (plainFor_of_name pn_4) ?_
  intro p e s m below meth c T0 X0 hx hZ hby hml hown hnm hret hlk e0
  obtain ⟨hw, ⟨cz, S_CS, hcz⟩, ⟨sf, S_SF, hsf⟩, S_AD, S_HI, S_LO⟩ := id hD
  have N0 := Fr.nil Z.heap.size
  have K0 : Keep h0 h0 [t] := Keep.refl _ _
  refine OEnds.cast (ef_comp2_1 m tc t) ?_
  refine OEnds.st (S' := T0.setTop (mkF m 3 #[vr tc, vi 0, vr t, vi 0, vi 1, vi 0, .unset] [])) (fun _ k => ?_) ?_
  · refine XS.iconst X0.here hx rfl (hb hby d_jdk_52_21_0) ?_
    refine XS.istore X0.here hx rfl (hb hby d_jdk_52_21_1) rfl (l' := #[vr tc, vi 0, vr t, vi 0, vi 1, vi 0, .unset]) rfl ?_
    exact k
  refine OEnds.st (S' := T0.setTop (mkF m 12 #[vr tc, vi 0, vr t, vi 0, vi 1, vi 0, .unset] [(.int 0), (.ref tc)])) (fun _ k => ?_) ?_
  · refine XS.iload X0.here hx rfl (hb hby d_jdk_52_21_3) rfl ?_
    refine XS.iload X0.here hx rfl (hb hby d_jdk_52_21_5) rfl ?_
    refine XS.icmpNo X0.here hx rfl (hb hby d_jdk_52_21_7) rfl (tlt (by decide)).2.1 ?_
    refine XS.aloadN X0.here hx rfl (hb hby d_jdk_52_21_10) rfl rfl ?_
    show Steps p.tables e below (T0.setTop (mkF m 11 #[vr tc, vi 0, vr t, vi 0, vi 1, vi 0, .unset] [(.ref tc)])) _
    refine XS.iloadN X0.here hx rfl (hb hby d_jdk_52_21_11) rfl ?_
    exact k
  obtain ⟨cl_tc_1, Ar_tc_1, q_tc_1, S_tc_1, N_tc_1, H_tc_1, G_tc_1⟩ := id V_tc
  refine OEnds.st (S' := T0.setTop (mkF m 13 #[vr tc, vi 0, vr t, vi 0, vi 1, vi 0, .unset] [(.int x0)])) (X0.caload hx (j := (0 : Int32)) (v := (.int x0)) (by rw [e0]; exact Ar_tc_1.1) (State.isArrayOf_alike hZ.alike Ar_tc_1.2.1) Ar_tc_1.2.2 (inb_of S_tc_1 ⟨by decide, by decide⟩) (H_tc_1.at (inb_of S_tc_1 ⟨by decide, by decide⟩) rfl) (g := (mkF m 12 #[vr tc, vi 0, vr t, vi 0, vi 1, vi 0, .unset] [(.int 0), (.ref tc)])) rfl rfl (hb hby d_jdk_52_21_12)) ?_
  refine OEnds.st (S' := T0.setTop (mkF m 20 #[vr tc, vi 0, vr t, vi 0, vi 1, vi 0, vi x0] [(.int 255), (.int x0)])) (fun _ k => ?_) ?_
  · refine XS.istore X0.here hx rfl (hb hby d_jdk_52_21_13) rfl (l' := #[vr tc, vi 0, vr t, vi 0, vi 1, vi 0, vi x0]) rfl ?_
    refine XS.iload X0.here hx rfl (hb hby d_jdk_52_21_15) rfl ?_
    refine XS.sipush X0.here hx rfl (hb hby d_jdk_52_21_17) ?_
    exact k
  rcases Classical.em ((255 : Int32) < x0) with g0 | g0
  · refine OEnds.st (S' := T0.setTop (mkF m 25 #[vr tc, vi 0, vr t, vi 0, vi 1, vi 0, vi x0] [(.int 0)])) (fun _ k => ?_) ?_
    · refine XS.icmpNo X0.here hx rfl (hb hby d_jdk_52_21_20) rfl (tlt g0).2.2.2 ?_
      refine XS.iload X0.here hx rfl (hb hby d_jdk_52_21_23) rfl ?_
      exact k
    exact OEnds.ret X0 hx hret hlk rfl (Or.inl ⟨rfl, by simp, _, rfl⟩) (hb hby d_jdk_52_21_25) (by decide) (by decide) (by rw [e0]; exact ⟨_, rfl, N0, K0, Or.inr (⟨rfl, g0⟩)⟩)
  · refine OEnds.st (S' := T0.setTop (mkF m 31 #[vr tc, vi 0, vr t, vi 0, vi 1, vi 0, vi x0] [(.int (x0.toInt8.toInt32)), (.int 0), (.ref t)])) (fun _ k => ?_) ?_
    · refine XS.icmpYes X0.here hx rfl (pc0 := 20) (pc' := 26) rfl (hb hby d_jdk_52_21_20) rfl (flt g0).2.2.2 (by decide) (by decide) ?_
      refine XS.aloadN X0.here hx rfl (hb hby d_jdk_52_21_26) rfl rfl ?_
      refine XS.iloadN X0.here hx rfl (hb hby d_jdk_52_21_27) rfl ?_
      refine XS.iload X0.here hx rfl (hb hby d_jdk_52_21_28) rfl ?_
      show Steps p.tables e below (T0.setTop (mkF m 30 #[vr tc, vi 0, vr t, vi 0, vi 1, vi 0, vi x0] [(.int x0), (.int 0), (.ref t)])) _
      refine XS.i2b X0.here hx rfl (hb hby d_jdk_52_21_30) rfl ?_
      exact k
    obtain ⟨cl_t_2, Ar_t_2, q_t_2, S_t_2, N_t_2, H_t_2, G_t_2⟩ := V_t
    obtain ⟨T2, h2, X2, e2, W2, st2⟩ := stB X0 hx hZ e0 Ar_t_2 (j := (0 : Int32)) (inb_of S_t_2 ⟨by decide, by decide⟩) (g := (mkF m 31 #[vr tc, vi 0, vr t, vi 0, vi 1, vi 0, vi x0] [(.int (x0.toInt8.toInt32)), (.int 0), (.ref t)])) rfl rfl (hb hby d_jdk_52_21_31)
    have V_t_2 : Arv Z h2 t k .byte (1 : Int32) [(.int (nar .byte (x0.toInt8.toInt32)))] (.int 0) := Arv.set Ar_t_2 q_t_2 S_t_2 N_t_2 H_t_2 G_t_2 (fits_nar_byte _) W2 0 rfl (Nat.le_of_ble_eq_true rfl)
    refine OEnds.st st2 ?_
    replace V_tc := V_tc.other W2 ne_tc_t
    replace O0 : Ext Z.heap h2 := ext_wr O0 W2 ge_t
    replace N0 := Fr.snoc X2 N0 ge_t
    replace K0 : Keep h0 h2 [t] := K0.wr W2 (Or.inl (List.mem_of_getElem? (i := 0) rfl))
    refine OEnds.st (S' := T2.setTop (mkF m 3 #[vr tc, vi 1, vr t, vi 1, vi 1, vi 1, vi x0] [])) (fun _ k => ?_) ?_
    · refine XS.iinc X2.here hx rfl (hb hby d_jdk_52_21_32) rfl (l' := #[vr tc, vi 1, vr t, vi 0, vi 1, vi 0, vi x0]) rfl ?_
      refine XS.iinc X2.here hx rfl (hb hby d_jdk_52_21_35) rfl (l' := #[vr tc, vi 1, vr t, vi 1, vi 1, vi 0, vi x0]) rfl ?_
      refine XS.iinc X2.here hx rfl (hb hby d_jdk_52_21_38) rfl (l' := #[vr tc, vi 1, vr t, vi 1, vi 1, vi 1, vi x0]) rfl ?_
      refine XS.goto X2.here hx rfl (pc0 := 41) (pc' := 3) rfl (hb hby d_jdk_52_21_41) (by decide) (by decide) ?_
      exact k
    refine OEnds.st (S' := T2.setTop (mkF m 46 #[vr tc, vi 1, vr t, vi 1, vi 1, vi 1, vi x0] [(.int 1)])) (fun _ k => ?_) ?_
    · refine XS.iload X2.here hx rfl (hb hby d_jdk_52_21_3) rfl ?_
      refine XS.iload X2.here hx rfl (hb hby d_jdk_52_21_5) rfl ?_
      refine XS.icmpYes X2.here hx rfl (pc0 := 7) (pc' := 44) rfl (hb hby d_jdk_52_21_7) rfl (flt (by decide)).2.1 (by decide) (by decide) ?_
      refine XS.iload X2.here hx rfl (hb hby d_jdk_52_21_44) rfl ?_
      exact k
    simp only [nar_b8] at V_t_2
    exact OEnds.ret X2 hx hret hlk rfl (Or.inl ⟨rfl, by simp, _, rfl⟩) (hb hby d_jdk_52_21_46) (by decide) (by decide) (by rw [e2]; exact ⟨_, rfl, N0, K0, Or.inl ⟨rfl, g0, V_t_2⟩⟩)
-- java/lang/StringUTF16.newBytesLength:(I)I
def Q_nbLen1 (Z : State)  (h0 : Heap) (v : Option Value) (h : Heap) (L : List Loc) : Prop := v = some (.int 2) ∧ Fr Z.heap.size L ∧ h = h0
theorem ef_nbLen1 (m : MethodId)  : entryFrame m #[(.int 1)] 1 = mkF m 0 #[vi 1] [] := by first | (simp [entryFrame, mkF, argsToLocals, Value.category, vi, vj, vr]; done) | rfl
theorem d_jdk_52_3_0 : decode jdk_52_method_3_code 0 = .ok (.iload_n 0, 1) := by decide +kernel
theorem d_jdk_52_3_1 : decode jdk_52_method_3_code 1 = .ok (.ifCond .ge 11, 3) := by decide +kernel
theorem d_jdk_52_3_12 : decode jdk_52_method_3_code 12 = .ok (.iload_n 0, 1) := by decide +kernel
theorem d_jdk_52_3_13 : decode jdk_52_method_3_code 13 = .ok (.ldc 20, 2) := by decide +kernel
theorem d_jdk_52_3_15 : decode jdk_52_method_3_code 15 = .ok (.if_icmp .lt 40, 3) := by decide +kernel
theorem d_jdk_52_3_55 : decode jdk_52_method_3_code 55 = .ok (.iload_n 0, 1) := by decide +kernel
theorem d_jdk_52_3_56 : decode jdk_52_method_3_code 56 = .ok (.iconst 1, 1) := by decide +kernel
theorem d_jdk_52_3_57 : decode jdk_52_method_3_code 57 = .ok (.ishl, 1) := by decide +kernel
theorem d_jdk_52_3_58 : decode jdk_52_method_3_code 58 = .ok (.ireturn, 1) := by decide +kernel
set_option maxRecDepth 65536 in
set_option maxHeartbeats 40000000 in
theorem rm_nbLen1 (l : Launch) {Z : State} {a0 : Array Value} (hD : Wd Z a0)  {h0 : Heap} (O0 : Ext Z.heap h0) :
    Con l Z (⟨"java/lang/StringUTF16", "newBytesLength", "(I)I"⟩ : MethodName) jdk_52_method_3_code 1 (some .int) [] ({ frames := 0, cells := 0, slots := 0, locals := 0 } : Room) #[(.int 1)] h0 (Q_nbLen1 Z  h0) := by
  refine Con.walk (plainFor_of_name pn_4) ?_
  intro p e s m below meth c T0 X0 hx hZ hby hml hown hnm hret hlk e0
  obtain ⟨hw, ⟨cz, S_CS, hcz⟩, ⟨sf, S_SF, hsf⟩, S_AD, S_HI, S_LO⟩ := id hD
  have N0 := Fr.nil Z.heap.size
  refine OEnds.cast (ef_nbLen1 m ) ?_
  refine OEnds.st (S' := T0.setTop (mkF m 58 #[vi 1] [(.int 2)])) (fun _ k => ?_) ?_
  · refine XS.iloadN X0.here hx rfl (hb hby d_jdk_52_3_0) rfl ?_
    refine XS.ifYes X0.here hx rfl (pc0 := 1) (pc' := 12) rfl (hb hby d_jdk_52_3_1) rfl ((if0 _ _).trans (flt (by decide)).2.1) (by decide) (by decide) ?_
    refine XS.iloadN X0.here hx rfl (hb hby d_jdk_52_3_12) rfl ?_
    refine X0.ldcInt hx hown (mvT hZ (wq hw 94 rfl)) (g := (mkF m 13 #[vi 1] [(.int 1)])) rfl (hb hby d_jdk_52_3_13) _ ?_
    show Steps p.tables e below (T0.setTop (mkF m 15 #[vi 1] [(.int 1073741823), (.int 1)])) _
    refine XS.icmpYes X0.here hx rfl (pc0 := 15) (pc' := 55) rfl (hb hby d_jdk_52_3_15) rfl (tlt (by decide)).1 (by decide) (by decide) ?_
    refine XS.iloadN X0.here hx rfl (hb hby d_jdk_52_3_55) rfl ?_
    refine XS.iconst X0.here hx rfl (hb hby d_jdk_52_3_56) ?_
    refine XS.ishl X0.here hx rfl (hb hby d_jdk_52_3_57) rfl ?_
    exact k
  exact OEnds.ret X0 hx hret hlk rfl (Or.inl ⟨rfl, by simp, _, rfl⟩) (hb hby d_jdk_52_3_58) (by decide) (by decide) (by rw [e0]; exact ⟨rfl, N0, rfl⟩)
-- java/lang/StringUTF16.newBytesFor:(I)[B
def Q_nbFor1 (Z : State)  (h0 : Heap) (v : Option Value) (h : Heap) (L : List Loc) : Prop := ∃ (t : Addr) (k : ClassId), v = some (.ref t) ∧ Fr Z.heap.size L ∧ Keep h0 h [] ∧ h0.size ≤ t ∧ Arv Z h t k .byte (2 : Int32) [(.int 0), (.int 0)] (.int 0)
theorem ef_nbFor1 (m : MethodId)  : entryFrame m #[(.int 1)] 1 = mkF m 0 #[vi 1] [] := by first | (simp [entryFrame, mkF, argsToLocals, Value.category, vi, vj, vr]; done) | rfl
theorem d_jdk_52_2_0 : decode jdk_52_method_2_code 0 = .ok (.iload_n 0, 1) := by decide +kernel
theorem d_jdk_52_2_1 : decode jdk_52_method_2_code 1 = .ok (.invokestatic 11, 3) := by decide +kernel
theorem pd_1 : parseMethodDescriptor "(I)I" = some ⟨[.int], some .int⟩ := by decide +kernel
theorem d_jdk_52_2_4 : decode jdk_52_method_2_code 4 = .ok (.newarray .byte, 2) := by decide +kernel
theorem d_jdk_52_2_6 : decode jdk_52_method_2_code 6 = .ok (.areturn, 1) := by decide +kernel
set_option maxRecDepth 65536 in
set_option maxHeartbeats 40000000 in
theorem rm_nbFor1 (l : Launch) {Z : State} {a0 : Array Value} (hD : Wd Z a0)  {h0 : Heap} (O0 : Ext Z.heap h0) :
    Con l Z (⟨"java/lang/StringUTF16", "newBytesFor", "(I)[B"⟩ : MethodName) jdk_52_method_2_code 1 (some (.array .byte)) [] ({ frames := 1, cells := 1, slots := 2, locals := 12 } : Room) #[(.int 1)] h0 (Q_nbFor1 Z  h0) := by
  refine Con.walk (plainFor_of_name pn_4) ?_
  intro p e s m below meth c T0 X0 hx hZ hby hml hown hnm hret hlk e0
  obtain ⟨hw, ⟨cz, S_CS, hcz⟩, ⟨sf, S_SF, hsf⟩, S_AD, S_HI, S_LO⟩ := id hD
  have N0 := Fr.nil Z.heap.size
  have K0 : Keep h0 h0 [] := Keep.refl _ _
  refine OEnds.cast (ef_nbFor1 m ) ?_
  refine OEnds.st (S' := T0.setTop (mkF m 1 #[vi 1] [(.int 1)])) (fun _ k => ?_) ?_
  · refine XS.iloadN X0.here hx rfl (hb hby d_jdk_52_2_0) rfl ?_
    exact k
  obtain ⟨_, T1, h1, L1, X1, e1, hQ1, st1⟩ := callC X0 hx hZ hown (wq hw 91 rfl) (wq hw 92 rfl) (wq hw 22 rfl) (wq hw 93 rfl) (by decide) (kc := 0) (ks := 0) (Con.sb (W := 0) (rm_nbLen1 l hD  O0) hZ (wq hw 93 rfl) (wq hw 22 rfl) (by decide) (by decide)) e0 (g := (mkF m 1 #[vi 1] [(.int 1)])) rfl (by rw [hml]; rfl) (argsL := [(.int 1)]) (rest := []) (lenOf pd_1 rfl) rfl (by show 2 * 0 + _ ≤ _; exact Nat.le_of_eq rfl) (hb hby d_jdk_52_2_1) (by decide) (by decide)
  obtain ⟨rfl, Nq1, Hq1⟩ := hQ1
  refine OEnds.st st1 ?_
  replace N0 := Fr.app N0 Nq1
  replace e1 := e1.trans Hq1
  obtain ⟨T2, h2, k2, X2, e2, E2, A2, st2⟩ := newP X1 hx hZ (wq hw 24 rfl) e1 (g := (mkF m 4 #[vi 1] [(.int 2)])) rfl (hb hby d_jdk_52_2_4) rfl (by decide) (cap := 2) (by decide) (by decide) (by decide) (by decide)
  obtain ⟨b2, g2⟩ : ∃ z, z = h0.size := ⟨_, rfl⟩
  rw [← g2] at A2 st2
  refine OEnds.st st2 ?_
  have ge_b2 : Z.heap.size ≤ b2 := Nat.le_trans O0.1 (Nat.le_of_eq g2.symm)
  have sz_b2 : h0.size ≤ b2 := Nat.le_trans K0.1 (Nat.le_of_eq g2.symm)
  replace O0 : Ext Z.heap h2 := ext_trans O0 E2
  replace K0 : Keep h0 h2 [] := K0.ext E2
  have V_b2 : Arv Z h2 b2 k2 .byte (2 : Int32) [(.int 0), (.int 0)] (.int 0) := (Arv.new A2 (by decide)).pad (pad_rep [] (.int 0) 2)
  exact OEnds.ret X2 hx hret hlk rfl (Or.inr (Or.inr (Or.inr (Or.inr ⟨rfl, rfl, rfl⟩)))) (hb hby d_jdk_52_2_6) (by decide) (by decide) (by rw [e2]; exact ⟨b2, _, rfl, N0, K0, sz_b2, V_b2⟩)
-- java/lang/StringUTF16.putChar:([BII)V
def Q_putC1_0 (Z : State) (t : Addr) (x0 : Int32) (k : ClassId)  (h0 : Heap) (v : Option Value) (h : Heap) (L : List Loc) : Prop := v = none ∧ Fr Z.heap.size L ∧ Keep h0 h [t] ∧ Arv Z h t k .byte (2 : Int32) [(.int (x0.toInt8.toInt32)), (.int ((x0 >>> ((8 : Int32) &&& 31)).toInt8.toInt32))] (.int 0)
theorem ef_putC1_0 (m : MethodId) (t : Addr) (x0 : Int32) : entryFrame m #[(.ref t), (.int 0), (.int x0)] 3 = mkF m 0 #[vr t, vi 0, vi x0] [] := by first | (simp [entryFrame, mkF, argsToLocals, Value.category, vi, vj, vr]; done) | rfl
theorem d_jdk_52_4_0 : decode jdk_52_method_4_code 0 = .ok (.getstatic 44, 3) := by decide +kernel
theorem d_jdk_52_4_3 : decode jdk_52_method_4_code 3 = .ok (.ifCond .ne 25, 3) := by decide +kernel
theorem d_jdk_52_4_28 : decode jdk_52_method_4_code 28 = .ok (.iload_n 1, 1) := by decide +kernel
theorem d_jdk_52_4_29 : decode jdk_52_method_4_code 29 = .ok (.iconst 1, 1) := by decide +kernel
theorem d_jdk_52_4_30 : decode jdk_52_method_4_code 30 = .ok (.ishl, 1) := by decide +kernel
theorem d_jdk_52_4_31 : decode jdk_52_method_4_code 31 = .ok (.istore_n 1, 1) := by decide +kernel
theorem d_jdk_52_4_32 : decode jdk_52_method_4_code 32 = .ok (.aload_n 0, 1) := by decide +kernel
theorem d_jdk_52_4_33 : decode jdk_52_method_4_code 33 = .ok (.iload_n 1, 1) := by decide +kernel
theorem d_jdk_52_4_34 : decode jdk_52_method_4_code 34 = .ok (.iinc 1 1, 3) := by decide +kernel
theorem d_jdk_52_4_37 : decode jdk_52_method_4_code 37 = .ok (.iload_n 2, 1) := by decide +kernel
theorem d_jdk_52_4_38 : decode jdk_52_method_4_code 38 = .ok (.getstatic 59, 3) := by decide +kernel
theorem d_jdk_52_4_41 : decode jdk_52_method_4_code 41 = .ok (.ishr, 1) := by decide +kernel
theorem d_jdk_52_4_42 : decode jdk_52_method_4_code 42 = .ok (.i2b, 1) := by decide +kernel
theorem d_jdk_52_4_43 : decode jdk_52_method_4_code 43 = .ok (.bastore, 1) := by decide +kernel
theorem d_jdk_52_4_44 : decode jdk_52_method_4_code 44 = .ok (.aload_n 0, 1) := by decide +kernel
theorem d_jdk_52_4_45 : decode jdk_52_method_4_code 45 = .ok (.iload_n 1, 1) := by decide +kernel
theorem d_jdk_52_4_46 : decode jdk_52_method_4_code 46 = .ok (.iload_n 2, 1) := by decide +kernel
theorem d_jdk_52_4_47 : decode jdk_52_method_4_code 47 = .ok (.getstatic 63, 3) := by decide +kernel
theorem d_jdk_52_4_50 : decode jdk_52_method_4_code 50 = .ok (.ishr, 1) := by decide +kernel
theorem d_jdk_52_4_51 : decode jdk_52_method_4_code 51 = .ok (.i2b, 1) := by decide +kernel
theorem d_jdk_52_4_52 : decode jdk_52_method_4_code 52 = .ok (.bastore, 1) := by decide +kernel
theorem d_jdk_52_4_53 : decode jdk_52_method_4_code 53 = .ok (.return_, 1) := by decide +kernel
set_option maxRecDepth 65536 in
set_option maxHeartbeats 40000000 in
theorem rm_putC1_0 (l : Launch) {Z : State} {a0 : Array Value} (hD : Wd Z a0) (t : Addr) (x0 : Int32) (k : ClassId)  {h0 : Heap} (O0 : Ext Z.heap h0) (V_t : Arv Z h0 t k .byte (2 : Int32) [(.int 0), (.int 0)] (.int 0)) (ge_t : Z.heap.size ≤ t) :
    Con l Z (⟨"java/lang/StringUTF16", "putChar", "([BII)V"⟩ : MethodName) jdk_52_method_4_code 3 none [] ({ frames := 0, cells := 0, slots := 0, locals := 0 } : Room) #[(.ref t), (.int 0), (.int x0)] h0 (Q_putC1_0 Z t x0 k h0) := by
  refine Con.walk (plainFor_of_name pn_4) ?_
  intro p e s m below meth c T0 X0 hx hZ hby hml hown hnm hret hlk e0
  obtain ⟨hw, ⟨cz, S_CS, hcz⟩, ⟨sf, S_SF, hsf⟩, S_AD, S_HI, S_LO⟩ := id hD
  have N0 := Fr.nil Z.heap.size
  have K0 : Keep h0 h0 [t] := Keep.refl _ _
  refine OEnds.cast (ef_putC1_0 m t x0) ?_
  obtain ⟨T1, X1, e1, st1⟩ := getS2 X0 hx hZ hown (host := "") (Or.inl (wq hw 98 rfl)) Via.refl e0 (S_AD.ext O0) (g := (mkF m 0 #[vr t, vi 0, vi x0] [])) rfl (hb hby d_jdk_52_4_0)
  refine OEnds.st st1 ?_
  refine OEnds.st (S' := T1.setTop (mkF m 38 #[vr t, vi 1, vi x0] [(.int x0), (.int 0), (.ref t)])) (fun _ k => ?_) ?_
  · refine XS.ifYes X1.here hx rfl (pc0 := 3) (pc' := 28) rfl (hb hby d_jdk_52_4_3) rfl ((if0 _ _).trans (feq (by decide)).2) (by decide) (by decide) ?_
    refine XS.iloadN X1.here hx rfl (hb hby d_jdk_52_4_28) rfl ?_
    refine XS.iconst X1.here hx rfl (hb hby d_jdk_52_4_29) ?_
    refine XS.ishl X1.here hx rfl (hb hby d_jdk_52_4_30) rfl ?_
    show Steps p.tables e below (T1.setTop (mkF m 31 #[vr t, vi 0, vi x0] [(.int 0)])) _
    refine XS.istoreN X1.here hx rfl (hb hby d_jdk_52_4_31) rfl (l' := #[vr t, vi 0, vi x0]) rfl ?_
    refine XS.aloadN X1.here hx rfl (hb hby d_jdk_52_4_32) rfl rfl ?_
    refine XS.iloadN X1.here hx rfl (hb hby d_jdk_52_4_33) rfl ?_
    refine XS.iinc X1.here hx rfl (hb hby d_jdk_52_4_34) rfl (l' := #[vr t, vi 1, vi x0]) rfl ?_
    show Steps p.tables e below (T1.setTop (mkF m 37 #[vr t, vi 1, vi x0] [(.int 0), (.ref t)])) _
    refine XS.iloadN X1.here hx rfl (hb hby d_jdk_52_4_37) rfl ?_
    exact k
  obtain ⟨T2, X2, e2, st2⟩ := getS2 X1 hx hZ hown (host := "") (Or.inl (wq hw 99 rfl)) Via.refl e1 (S_HI.ext O0) (g := (mkF m 38 #[vr t, vi 1, vi x0] [(.int x0), (.int 0), (.ref t)])) rfl (hb hby d_jdk_52_4_38)
  refine OEnds.st st2 ?_
  refine OEnds.st (S' := T2.setTop (mkF m 43 #[vr t, vi 1, vi x0] [(.int (x0.toInt8.toInt32)), (.int 0), (.ref t)])) (fun _ k => ?_) ?_
  · refine XS.ishr X2.here hx rfl (hb hby d_jdk_52_4_41) rfl ?_
    rw [shr0 x0]
    refine XS.i2b X2.here hx rfl (hb hby d_jdk_52_4_42) rfl ?_
    exact k
  obtain ⟨cl_t_3, Ar_t_3, q_t_3, S_t_3, N_t_3, H_t_3, G_t_3⟩ := V_t
  obtain ⟨T3, h3, X3, e3, W3, st3⟩ := stB X2 hx hZ e2 Ar_t_3 (j := (0 : Int32)) (inb_of S_t_3 ⟨by decide, by decide⟩) (g := (mkF m 43 #[vr t, vi 1, vi x0] [(.int (x0.toInt8.toInt32)), (.int 0), (.ref t)])) rfl rfl (hb hby d_jdk_52_4_43)
  have V_t_3 : Arv Z h3 t k .byte (2 : Int32) [(.int (nar .byte (x0.toInt8.toInt32))), (.int 0)] (.int 0) := Arv.set Ar_t_3 q_t_3 S_t_3 N_t_3 H_t_3 G_t_3 (fits_nar_byte _) W3 0 rfl (Nat.le_of_ble_eq_true rfl)
  refine OEnds.st st3 ?_
  replace O0 : Ext Z.heap h3 := ext_wr O0 W3 ge_t
  replace N0 := Fr.snoc X3 N0 ge_t
  replace K0 : Keep h0 h3 [t] := K0.wr W3 (Or.inl (List.mem_of_getElem? (i := 0) rfl))
  refine OEnds.st (S' := T3.setTop (mkF m 47 #[vr t, vi 1, vi x0] [(.int x0), (.int 1), (.ref t)])) (fun _ k => ?_) ?_
  · refine XS.aloadN X3.here hx rfl (hb hby d_jdk_52_4_44) rfl rfl ?_
    refine XS.iloadN X3.here hx rfl (hb hby d_jdk_52_4_45) rfl ?_
    refine XS.iloadN X3.here hx rfl (hb hby d_jdk_52_4_46) rfl ?_
    exact k
  obtain ⟨T4, X4, e4, st4⟩ := getS2 X3 hx hZ hown (host := "") (Or.inl (wq hw 100 rfl)) Via.refl e3 (S_LO.ext O0) (g := (mkF m 47 #[vr t, vi 1, vi x0] [(.int x0), (.int 1), (.ref t)])) rfl (hb hby d_jdk_52_4_47)
  refine OEnds.st st4 ?_
  refine OEnds.st (S' := T4.setTop (mkF m 52 #[vr t, vi 1, vi x0] [(.int ((x0 >>> ((8 : Int32) &&& 31)).toInt8.toInt32)), (.int 1), (.ref t)])) (fun _ k => ?_) ?_
  · refine XS.ishr X4.here hx rfl (hb hby d_jdk_52_4_50) rfl ?_
    refine XS.i2b X4.here hx rfl (hb hby d_jdk_52_4_51) rfl ?_
    exact k
  obtain ⟨cl_t_5, Ar_t_5, q_t_5, S_t_5, N_t_5, H_t_5, G_t_5⟩ := V_t_3
  obtain ⟨T5, h5, X5, e5, W5, st5⟩ := stB X4 hx hZ e4 Ar_t_5 (j := (1 : Int32)) (inb_of S_t_5 ⟨by decide, by decide⟩) (g := (mkF m 52 #[vr t, vi 1, vi x0] [(.int ((x0 >>> ((8 : Int32) &&& 31)).toInt8.toInt32)), (.int 1), (.ref t)])) rfl rfl (hb hby d_jdk_52_4_52)
  have V_t_5 : Arv Z h5 t k .byte (2 : Int32) [(.int (nar .byte (x0.toInt8.toInt32))), (.int (nar .byte ((x0 >>> ((8 : Int32) &&& 31)).toInt8.toInt32)))] (.int 0) := Arv.set Ar_t_5 q_t_5 S_t_5 N_t_5 H_t_5 G_t_5 (fits_nar_byte _) W5 1 rfl (Nat.le_of_ble_eq_true rfl)
  refine OEnds.st st5 ?_
  replace O0 : Ext Z.heap h5 := ext_wr O0 W5 ge_t
  replace N0 := Fr.snoc X5 N0 ge_t
  replace K0 : Keep h0 h5 [t] := K0.wr W5 (Or.inl (List.mem_of_getElem? (i := 0) rfl))
  simp only [nar_b8] at V_t_5
  exact OEnds.retV X5 hx hret hlk (hb hby d_jdk_52_4_53) (by decide) (by decide) (by rw [e5]; exact ⟨rfl, N0, K0, V_t_5⟩)
-- java/lang/StringUTF16.getChar:([BI)C
def Q_getC1_0 (Z : State) (t : Addr) (k : ClassId) (x0 : Int32) (h0 : Heap) (v : Option Value) (h : Heap) (L : List Loc) : Prop := v = some (.int x0) ∧ Fr Z.heap.size L ∧ h = h0
theorem ef_getC1_0 (m : MethodId) (t : Addr) : entryFrame m #[(.ref t), (.int 0)] 2 = mkF m 0 #[vr t, vi 0] [] := by first | (simp [entryFrame, mkF, argsToLocals, Value.category, vi, vj, vr]; done) | rfl
theorem d_jdk_52_5_0 : decode jdk_52_method_5_code 0 = .ok (.getstatic 44, 3) := by decide +kernel
theorem d_jdk_52_5_3 : decode jdk_52_method_5_code 3 = .ok (.ifCond .ne 25, 3) := by decide +kernel
theorem d_jdk_52_5_28 : decode jdk_52_method_5_code 28 = .ok (.iload_n 1, 1) := by decide +kernel
theorem d_jdk_52_5_29 : decode jdk_52_method_5_code 29 = .ok (.iconst 1, 1) := by decide +kernel
theorem d_jdk_52_5_30 : decode jdk_52_method_5_code 30 = .ok (.ishl, 1) := by decide +kernel
theorem d_jdk_52_5_31 : decode jdk_52_method_5_code 31 = .ok (.istore_n 1, 1) := by decide +kernel
theorem d_jdk_52_5_32 : decode jdk_52_method_5_code 32 = .ok (.aload_n 0, 1) := by decide +kernel
theorem d_jdk_52_5_33 : decode jdk_52_method_5_code 33 = .ok (.iload_n 1, 1) := by decide +kernel
theorem d_jdk_52_5_34 : decode jdk_52_method_5_code 34 = .ok (.iinc 1 1, 3) := by decide +kernel
theorem d_jdk_52_5_37 : decode jdk_52_method_5_code 37 = .ok (.baload, 1) := by decide +kernel
theorem d_jdk_52_5_38 : decode jdk_52_method_5_code 38 = .ok (.sipush 255, 3) := by decide +kernel
theorem d_jdk_52_5_41 : decode jdk_52_method_5_code 41 = .ok (.iand, 1) := by decide +kernel
theorem d_jdk_52_5_42 : decode jdk_52_method_5_code 42 = .ok (.getstatic 59, 3) := by decide +kernel
theorem d_jdk_52_5_45 : decode jdk_52_method_5_code 45 = .ok (.ishl, 1) := by decide +kernel
theorem d_jdk_52_5_46 : decode jdk_52_method_5_code 46 = .ok (.aload_n 0, 1) := by decide +kernel
theorem d_jdk_52_5_47 : decode jdk_52_method_5_code 47 = .ok (.iload_n 1, 1) := by decide +kernel
theorem d_jdk_52_5_48 : decode jdk_52_method_5_code 48 = .ok (.baload, 1) := by decide +kernel
theorem d_jdk_52_5_49 : decode jdk_52_method_5_code 49 = .ok (.sipush 255, 3) := by decide +kernel
theorem d_jdk_52_5_52 : decode jdk_52_method_5_code 52 = .ok (.iand, 1) := by decide +kernel
theorem d_jdk_52_5_53 : decode jdk_52_method_5_code 53 = .ok (.getstatic 63, 3) := by decide +kernel
theorem d_jdk_52_5_56 : decode jdk_52_method_5_code 56 = .ok (.ishl, 1) := by decide +kernel
theorem d_jdk_52_5_57 : decode jdk_52_method_5_code 57 = .ok (.ior, 1) := by decide +kernel
theorem d_jdk_52_5_58 : decode jdk_52_method_5_code 58 = .ok (.i2c, 1) := by decide +kernel
theorem d_jdk_52_5_59 : decode jdk_52_method_5_code 59 = .ok (.ireturn, 1) := by decide +kernel
set_option maxRecDepth 65536 in
set_option maxHeartbeats 40000000 in
theorem rm_getC1_0 (l : Launch) {Z : State} {a0 : Array Value} (hD : Wd Z a0) (t : Addr) (k : ClassId) (x0 : Int32) {h0 : Heap} (O0 : Ext Z.heap h0) (V_t : Arv Z h0 t k .byte (2 : Int32) [(.int (x0.toInt8.toInt32)), (.int ((x0 >>> ((8 : Int32) &&& 31)).toInt8.toInt32))] (.int 0)) (hx0 : ¬ x0 < 0 ∧ ¬ (65535 : Int32) < x0) :
    Con l Z (⟨"java/lang/StringUTF16", "getChar", "([BI)C"⟩ : MethodName) jdk_52_method_5_code 2 (some .char) [] ({ frames := 0, cells := 0, slots := 0, locals := 0 } : Room) #[(.ref t), (.int 0)] h0 (Q_getC1_0 Z t k x0 h0) := by
  refine Con.walk (plainFor_of_name pn_4) ?_
  intro p e s m below meth c T0 X0 hx hZ hby hml hown hnm hret hlk e0
  obtain ⟨hw, ⟨cz, S_CS, hcz⟩, ⟨sf, S_SF, hsf⟩, S_AD, S_HI, S_LO⟩ := id hD
  have N0 := Fr.nil Z.heap.size
  refine OEnds.cast (ef_getC1_0 m t) ?_
  obtain ⟨T1, X1, e1, st1⟩ := getS2 X0 hx hZ hown (host := "") (Or.inl (wq hw 98 rfl)) Via.refl e0 (S_AD.ext O0) (g := (mkF m 0 #[vr t, vi 0] [])) rfl (hb hby d_jdk_52_5_0)
  refine OEnds.st st1 ?_
  refine OEnds.st (S' := T1.setTop (mkF m 37 #[vr t, vi 1] [(.int 0), (.ref t)])) (fun _ k => ?_) ?_
  · refine XS.ifYes X1.here hx rfl (pc0 := 3) (pc' := 28) rfl (hb hby d_jdk_52_5_3) rfl ((if0 _ _).trans (feq (by decide)).2) (by decide) (by decide) ?_
    refine XS.iloadN X1.here hx rfl (hb hby d_jdk_52_5_28) rfl ?_
    refine XS.iconst X1.here hx rfl (hb hby d_jdk_52_5_29) ?_
    refine XS.ishl X1.here hx rfl (hb hby d_jdk_52_5_30) rfl ?_
    show Steps p.tables e below (T1.setTop (mkF m 31 #[vr t, vi 0] [(.int 0)])) _
    refine XS.istoreN X1.here hx rfl (hb hby d_jdk_52_5_31) rfl (l' := #[vr t, vi 0]) rfl ?_
    refine XS.aloadN X1.here hx rfl (hb hby d_jdk_52_5_32) rfl rfl ?_
    refine XS.iloadN X1.here hx rfl (hb hby d_jdk_52_5_33) rfl ?_
    refine XS.iinc X1.here hx rfl (hb hby d_jdk_52_5_34) rfl (l' := #[vr t, vi 1]) rfl ?_
    exact k
  obtain ⟨cl_t_2, Ar_t_2, q_t_2, S_t_2, N_t_2, H_t_2, G_t_2⟩ := id V_t
  refine OEnds.st (S' := T1.setTop (mkF m 38 #[vr t, vi 1] [(.int (x0.toInt8.toInt32))])) (X1.baloadBytes hx (j := (0 : Int32)) (v := (.int (x0.toInt8.toInt32))) (by rw [e1]; exact Ar_t_2.1) (State.isArrayOf_alike hZ.alike Ar_t_2.2.1) Ar_t_2.2.2 (inb_of S_t_2 ⟨by decide, by decide⟩) (H_t_2.at (inb_of S_t_2 ⟨by decide, by decide⟩) rfl) (g := (mkF m 37 #[vr t, vi 1] [(.int 0), (.ref t)])) rfl rfl (hb hby d_jdk_52_5_37)) ?_
  refine OEnds.st (S' := T1.setTop (mkF m 42 #[vr t, vi 1] [(.int ((x0.toInt8.toInt32) &&& (255 : Int32)))])) (fun _ k => ?_) ?_
  · refine XS.sipush X1.here hx rfl (hb hby d_jdk_52_5_38) ?_
    refine XS.iand X1.here hx rfl (hb hby d_jdk_52_5_41) rfl ?_
    exact k
  obtain ⟨T3, X3, e3, st3⟩ := getS2 X1 hx hZ hown (host := "") (Or.inl (wq hw 99 rfl)) Via.refl e1 (S_HI.ext O0) (g := (mkF m 42 #[vr t, vi 1] [(.int ((x0.toInt8.toInt32) &&& (255 : Int32)))])) rfl (hb hby d_jdk_52_5_42)
  refine OEnds.st st3 ?_
  refine OEnds.st (S' := T3.setTop (mkF m 48 #[vr t, vi 1] [(.int 1), (.ref t), (.int ((x0.toInt8.toInt32) &&& (255 : Int32)))])) (fun _ k => ?_) ?_
  · refine XS.ishl X3.here hx rfl (hb hby d_jdk_52_5_45) rfl ?_
    rw [shl0 ((x0.toInt8.toInt32) &&& (255 : Int32))]
    refine XS.aloadN X3.here hx rfl (hb hby d_jdk_52_5_46) rfl rfl ?_
    refine XS.iloadN X3.here hx rfl (hb hby d_jdk_52_5_47) rfl ?_
    exact k
  obtain ⟨cl_t_4, Ar_t_4, q_t_4, S_t_4, N_t_4, H_t_4, G_t_4⟩ := id V_t
  refine OEnds.st (S' := T3.setTop (mkF m 49 #[vr t, vi 1] [(.int ((x0 >>> ((8 : Int32) &&& 31)).toInt8.toInt32)), (.int ((x0.toInt8.toInt32) &&& (255 : Int32)))])) (X3.baloadBytes hx (j := (1 : Int32)) (v := (.int ((x0 >>> ((8 : Int32) &&& 31)).toInt8.toInt32))) (by rw [e3]; exact Ar_t_4.1) (State.isArrayOf_alike hZ.alike Ar_t_4.2.1) Ar_t_4.2.2 (inb_of S_t_4 ⟨by decide, by decide⟩) (H_t_4.at (inb_of S_t_4 ⟨by decide, by decide⟩) rfl) (g := (mkF m 48 #[vr t, vi 1] [(.int 1), (.ref t), (.int ((x0.toInt8.toInt32) &&& (255 : Int32)))])) rfl rfl (hb hby d_jdk_52_5_48)) ?_
  refine OEnds.st (S' := T3.setTop (mkF m 53 #[vr t, vi 1] [(.int (((x0 >>> ((8 : Int32) &&& 31)).toInt8.toInt32) &&& (255 : Int32))), (.int ((x0.toInt8.toInt32) &&& (255 : Int32)))])) (fun _ k => ?_) ?_
  · refine XS.sipush X3.here hx rfl (hb hby d_jdk_52_5_49) ?_
    refine XS.iand X3.here hx rfl (hb hby d_jdk_52_5_52) rfl ?_
    exact k
  obtain ⟨T5, X5, e5, st5⟩ := getS2 X3 hx hZ hown (host := "") (Or.inl (wq hw 100 rfl)) Via.refl e3 (S_LO.ext O0) (g := (mkF m 53 #[vr t, vi 1] [(.int (((x0 >>> ((8 : Int32) &&& 31)).toInt8.toInt32) &&& (255 : Int32))), (.int ((x0.toInt8.toInt32) &&& (255 : Int32)))])) rfl (hb hby d_jdk_52_5_53)
  refine OEnds.st st5 ?_
  refine OEnds.st (S' := T5.setTop (mkF m 59 #[vr t, vi 1] [(.int ((((x0.toInt8.toInt32) &&& (255 : Int32)) ||| ((((x0 >>> ((8 : Int32) &&& 31)).toInt8.toInt32) &&& (255 : Int32)) <<< ((8 : Int32) &&& 31))).toUInt32.toUInt16.toUInt32.toInt32))])) (fun _ k => ?_) ?_
  · refine XS.ishl X5.here hx rfl (hb hby d_jdk_52_5_56) rfl ?_
    refine XS.ior X5.here hx rfl (hb hby d_jdk_52_5_57) rfl ?_
    refine XS.i2c X5.here hx rfl (hb hby d_jdk_52_5_58) rfl ?_
    exact k
  rw [gch hx0]
  exact OEnds.ret X5 hx hret hlk (StrChars.narrow_ch hx0.1 hx0.2) (Or.inl ⟨rfl, by simp, _, rfl⟩) (hb hby d_jdk_52_5_59) (by decide) (by decide) (by rw [e5]; exact ⟨rfl, N0, rfl⟩)
-- java/lang/StringUTF16.toBytes:([CII)[B
def Q_toB1 (Z : State) (tc : Addr) (kc : ClassId) (x0 : Int32) (h0 : Heap) (v : Option Value) (h : Heap) (L : List Loc) : Prop := ∃ (t : Addr) (k : ClassId), v = some (.ref t) ∧ Fr Z.heap.size L ∧ Keep h0 h [] ∧ h0.size ≤ t ∧ Arv Z h t k .byte (2 : Int32) [(.int (x0.toInt8.toInt32)), (.int ((x0 >>> ((8 : Int32) &&& 31)).toInt8.toInt32))] (.int 0)
theorem ef_toB1 (m : MethodId) (tc : Addr) : entryFrame m #[(.ref tc), (.int 0), (.int 1)] 5 = mkF m 0 #[vr tc, vi 0, vi 1, .unset, .unset] [] := by first | (simp [entryFrame, mkF, argsToLocals, Value.category, vi, vj, vr]; done) | rfl
theorem d_jdk_52_14_0 : decode jdk_52_method_14_code 0 = .ok (.iload_n 2, 1) := by decide +kernel
theorem d_jdk_52_14_1 : decode jdk_52_method_14_code 1 = .ok (.invokestatic 107, 3) := by decide +kernel
theorem pd_2 : parseMethodDescriptor "(I)[B" = some ⟨[.int], some (.array .byte)⟩ := by decide +kernel
theorem d_jdk_52_14_4 : decode jdk_52_method_14_code 4 = .ok (.astore_n 3, 1) := by decide +kernel
theorem d_jdk_52_14_5 : decode jdk_52_method_14_code 5 = .ok (.iconst 0, 1) := by decide +kernel
theorem d_jdk_52_14_6 : decode jdk_52_method_14_code 6 = .ok (.istore 4, 2) := by decide +kernel
theorem d_jdk_52_14_8 : decode jdk_52_method_14_code 8 = .ok (.iload 4, 2) := by decide +kernel
theorem d_jdk_52_14_10 : decode jdk_52_method_14_code 10 = .ok (.iload_n 2, 1) := by decide +kernel
theorem d_jdk_52_14_11 : decode jdk_52_method_14_code 11 = .ok (.if_icmp .ge 21, 3) := by decide +kernel
theorem d_jdk_52_14_14 : decode jdk_52_method_14_code 14 = .ok (.aload_n 3, 1) := by decide +kernel
theorem d_jdk_52_14_15 : decode jdk_52_method_14_code 15 = .ok (.iload 4, 2) := by decide +kernel
theorem d_jdk_52_14_17 : decode jdk_52_method_14_code 17 = .ok (.aload_n 0, 1) := by decide +kernel
theorem d_jdk_52_14_18 : decode jdk_52_method_14_code 18 = .ok (.iload_n 1, 1) := by decide +kernel
theorem d_jdk_52_14_19 : decode jdk_52_method_14_code 19 = .ok (.caload, 1) := by decide +kernel
theorem d_jdk_52_14_20 : decode jdk_52_method_14_code 20 = .ok (.invokestatic 111, 3) := by decide +kernel
theorem pd_3 : parseMethodDescriptor "([BII)V" = some ⟨[(.array .byte), .int, .int], none⟩ := by decide +kernel
theorem d_jdk_52_14_23 : decode jdk_52_method_14_code 23 = .ok (.iinc 1 1, 3) := by decide +kernel
theorem d_jdk_52_14_26 : decode jdk_52_method_14_code 26 = .ok (.iinc 4 1, 3) := by decide +kernel
theorem d_jdk_52_14_29 : decode jdk_52_method_14_code 29 = .ok (.goto (-21), 3) := by decide +kernel
theorem d_jdk_52_14_32 : decode jdk_52_method_14_code 32 = .ok (.aload_n 3, 1) := by decide +kernel
theorem d_jdk_52_14_33 : decode jdk_52_method_14_code 33 = .ok (.areturn, 1) := by decide +kernel
set_option maxRecDepth 65536 in
set_option maxHeartbeats 40000000 in
theorem rm_toB1 (l : Launch) {Z : State} {a0 : Array Value} (hD : Wd Z a0) (tc : Addr) (kc : ClassId) (x0 : Int32) {h0 : Heap} (O0 : Ext Z.heap h0) (V_tc : Arv Z h0 tc kc .char (1 : Int32) [(.int x0)] (.int 0)) :
    Con l Z (⟨"java/lang/StringUTF16", "toBytes", "([CII)[B"⟩ : MethodName) jdk_52_method_14_code 5 (some (.array .byte)) [] ({ frames := 2, cells := 1, slots := 2, locals := 24 } : Room) #[(.ref tc), (.int 0), (.int 1)] h0 (Q_toB1 Z tc kc x0 h0) := by
  refine Con.walk (plainFor_of_name pn_4) ?_
  intro p e s m below meth c T0 X0 hx hZ hby hml hown hnm hret hlk e0
  obtain ⟨hw, ⟨cz, S_CS, hcz⟩, ⟨sf, S_SF, hsf⟩, S_AD, S_HI, S_LO⟩ := id hD
  have N0 := Fr.nil Z.heap.size
  have K0 : Keep h0 h0 [] := Keep.refl _ _
  refine OEnds.cast (ef_toB1 m tc) ?_
  refine OEnds.st (S' := T0.setTop (mkF m 1 #[vr tc, vi 0, vi 1, .unset, .unset] [(.int 1)])) (fun _ k => ?_) ?_
  · refine XS.iloadN X0.here hx rfl (hb hby d_jdk_52_14_0) rfl ?_
    exact k
  obtain ⟨_, T1, h1, L1, X1, e1, hQ1, st1⟩ := callC X0 hx hZ hown (wq hw 88 rfl) (wq hw 89 rfl) (wq hw 22 rfl) (wq hw 90 rfl) (by decide) (kc := 1) (ks := 2) (Con.sb (W := 0) (rm_nbFor1 l hD  O0) hZ (wq hw 90 rfl) (wq hw 22 rfl) (by decide) (by decide)) e0 (g := (mkF m 1 #[vr tc, vi 0, vi 1, .unset, .unset] [(.int 1)])) rfl (by rw [hml]; rfl) (argsL := [(.int 1)]) (rest := []) (lenOf pd_2 rfl) rfl (by show 2 * 0 + _ ≤ _; exact Nat.le_of_eq rfl) (hb hby d_jdk_52_14_1) (by decide) (by decide)
  obtain ⟨t1, k1, rfl, Nq1, Kq1, szq1, V1⟩ := hQ1
  refine OEnds.st st1 ?_
  replace N0 := Fr.app N0 Nq1
  have ne_tc_t1 : tc ≠ t1 := Nat.ne_of_lt (Nat.lt_of_lt_of_le V_tc.lt szq1)
  have ge_t1 : Z.heap.size ≤ t1 := Nat.le_trans O0.1 szq1
  have sz_t1 : h0.size ≤ t1 := Nat.le_trans K0.1 szq1
  replace V_tc := V_tc.keep Kq1 nin0
  replace O0 : Ext Z.heap h1 := ext_keep O0 Kq1 all0
  replace K0 : Keep h0 h1 [] := K0.trans Kq1 all0
  refine OEnds.st (S' := T1.setTop (mkF m 19 #[vr tc, vi 0, vi 1, vr t1, vi 0] [(.int 0), (.ref tc), (.int 0), (.ref t1)])) (fun _ k => ?_) ?_
  · refine XS.astoreN X1.here hx rfl (hb hby d_jdk_52_14_4) rfl rfl (l' := #[vr tc, vi 0, vi 1, vr t1, .unset]) rfl ?_
    refine XS.iconst X1.here hx rfl (hb hby d_jdk_52_14_5) ?_
    refine XS.istore X1.here hx rfl (hb hby d_jdk_52_14_6) rfl (l' := #[vr tc, vi 0, vi 1, vr t1, vi 0]) rfl ?_
    refine XS.iload X1.here hx rfl (hb hby d_jdk_52_14_8) rfl ?_
    show Steps p.tables e below (T1.setTop (mkF m 10 #[vr tc, vi 0, vi 1, vr t1, vi 0] [(.int 0)])) _
    refine XS.iloadN X1.here hx rfl (hb hby d_jdk_52_14_10) rfl ?_
    refine XS.icmpNo X1.here hx rfl (hb hby d_jdk_52_14_11) rfl (tlt (by decide)).2.1 ?_
    refine XS.aloadN X1.here hx rfl (hb hby d_jdk_52_14_14) rfl rfl ?_
    refine XS.iload X1.here hx rfl (hb hby d_jdk_52_14_15) rfl ?_
    show Steps p.tables e below (T1.setTop (mkF m 17 #[vr tc, vi 0, vi 1, vr t1, vi 0] [(.int 0), (.ref t1)])) _
    refine XS.aloadN X1.here hx rfl (hb hby d_jdk_52_14_17) rfl rfl ?_
    refine XS.iloadN X1.here hx rfl (hb hby d_jdk_52_14_18) rfl ?_
    exact k
  obtain ⟨cl_tc_2, Ar_tc_2, q_tc_2, S_tc_2, N_tc_2, H_tc_2, G_tc_2⟩ := id V_tc
  refine OEnds.st (S' := T1.setTop (mkF m 20 #[vr tc, vi 0, vi 1, vr t1, vi 0] [(.int x0), (.int 0), (.ref t1)])) (X1.caload hx (j := (0 : Int32)) (v := (.int x0)) (by rw [e1]; exact Ar_tc_2.1) (State.isArrayOf_alike hZ.alike Ar_tc_2.2.1) Ar_tc_2.2.2 (inb_of S_tc_2 ⟨by decide, by decide⟩) (H_tc_2.at (inb_of S_tc_2 ⟨by decide, by decide⟩) rfl) (g := (mkF m 19 #[vr tc, vi 0, vi 1, vr t1, vi 0] [(.int 0), (.ref tc), (.int 0), (.ref t1)])) rfl rfl (hb hby d_jdk_52_14_19)) ?_
  obtain ⟨_, T3, h3, L3, X3, e3, hQ3, st3⟩ := callC X1 hx hZ hown (wq hw 95 rfl) (wq hw 96 rfl) (wq hw 22 rfl) (wq hw 97 rfl) (by decide) (kc := 0) (ks := 0) (Con.sb (W := 0) (rm_putC1_0 l hD t1 x0 k1 O0 V1 ge_t1) hZ (wq hw 97 rfl) (wq hw 22 rfl) (by decide) (by decide)) e1 (g := (mkF m 20 #[vr tc, vi 0, vi 1, vr t1, vi 0] [(.int x0), (.int 0), (.ref t1)])) rfl (by rw [hml]; rfl) (argsL := [(.ref t1), (.int 0), (.int x0)]) (rest := []) (lenOf pd_3 rfl) rfl (by show 2 * 0 + _ ≤ _; exact Nat.le_of_eq rfl) (hb hby d_jdk_52_14_20) (by decide) (by decide)
  obtain ⟨rfl, Nq3, Kq3, V3⟩ := hQ3
  refine OEnds.st st3 ?_
  replace N0 := Fr.app N0 Nq3
  replace V_tc := V_tc.keep Kq3 (ninS ne_tc_t1 nin0)
  replace O0 : Ext Z.heap h3 := ext_keep O0 Kq3 (allS ge_t1 all0)
  replace K0 : Keep h0 h3 [] := K0.trans Kq3 (allS (Or.inr sz_t1) all0)
  refine OEnds.st (S' := T3.setTop (mkF m 33 #[vr tc, vi 1, vi 1, vr t1, vi 1] [(.ref t1)])) (fun _ k => ?_) ?_
  · refine XS.iinc X3.here hx rfl (hb hby d_jdk_52_14_23) rfl (l' := #[vr tc, vi 1, vi 1, vr t1, vi 0]) rfl ?_
    refine XS.iinc X3.here hx rfl (hb hby d_jdk_52_14_26) rfl (l' := #[vr tc, vi 1, vi 1, vr t1, vi 1]) rfl ?_
    refine XS.goto X3.here hx rfl (pc0 := 29) (pc' := 8) rfl (hb hby d_jdk_52_14_29) (by decide) (by decide) ?_
    refine XS.iload X3.here hx rfl (hb hby d_jdk_52_14_8) rfl ?_
    show Steps p.tables e below (T3.setTop (mkF m 10 #[vr tc, vi 1, vi 1, vr t1, vi 1] [(.int 1)])) _
    refine XS.iloadN X3.here hx rfl (hb hby d_jdk_52_14_10) rfl ?_
    refine XS.icmpYes X3.here hx rfl (pc0 := 11) (pc' := 32) rfl (hb hby d_jdk_52_14_11) rfl (flt (by decide)).2.1 (by decide) (by decide) ?_
    refine XS.aloadN X3.here hx rfl (hb hby d_jdk_52_14_32) rfl rfl ?_
    exact k
  exact OEnds.ret X3 hx hret hlk rfl (Or.inr (Or.inr (Or.inr (Or.inr ⟨rfl, rfl, rfl⟩)))) (hb hby d_jdk_52_14_33) (by decide) (by decide) (by rw [e3]; exact ⟨t1, _, rfl, N0, K0, sz_t1, V3⟩)
-- java/lang/StringUTF16.compress:([CII)[B
def Q_comp3_1 (Z : State) (tc : Addr) (kc : ClassId) (x0 : Int32) (h0 : Heap) (v : Option Value) (h : Heap) (L : List Loc) : Prop := ∃ (t : Addr) (k : ClassId), v = some (.ref t) ∧ Fr Z.heap.size L ∧ Keep h0 h [] ∧ h0.size ≤ t ∧ ((¬ (255 : Int32) < x0 ∧ Arv Z h t k .byte (1 : Int32) [(.int (x0.toInt8.toInt32))] (.int 0)) ∨ Arv Z h t k .byte (2 : Int32) [(.int (x0.toInt8.toInt32)), (.int ((x0 >>> ((8 : Int32) &&& 31)).toInt8.toInt32))] (.int 0))
theorem ef_comp3_1 (m : MethodId) (tc : Addr) : entryFrame m #[(.ref tc), (.int 0), (.int 1)] 6 = mkF m 0 #[vr tc, vi 0, vi 1, .unset, .unset, .unset] [] := by first | (simp [entryFrame, mkF, argsToLocals, Value.category, vi, vj, vr]; done) | rfl
theorem d_jdk_52_16_0 : decode jdk_52_method_16_code 0 = .ok (.iload_n 2, 1) := by decide +kernel
theorem d_jdk_52_16_1 : decode jdk_52_method_16_code 1 = .ok (.newarray .byte, 2) := by decide +kernel
theorem d_jdk_52_16_3 : decode jdk_52_method_16_code 3 = .ok (.astore_n 3, 1) := by decide +kernel
theorem d_jdk_52_16_4 : decode jdk_52_method_16_code 4 = .ok (.aload_n 0, 1) := by decide +kernel
theorem d_jdk_52_16_5 : decode jdk_52_method_16_code 5 = .ok (.iload_n 1, 1) := by decide +kernel
theorem d_jdk_52_16_6 : decode jdk_52_method_16_code 6 = .ok (.aload_n 3, 1) := by decide +kernel
theorem d_jdk_52_16_7 : decode jdk_52_method_16_code 7 = .ok (.iconst 0, 1) := by decide +kernel
theorem d_jdk_52_16_8 : decode jdk_52_method_16_code 8 = .ok (.iload_n 2, 1) := by decide +kernel
theorem d_jdk_52_16_9 : decode jdk_52_method_16_code 9 = .ok (.invokestatic 115, 3) := by decide +kernel
theorem pd_4 : parseMethodDescriptor "([CI[BII)I" = some ⟨[(.array .char), .int, (.array .byte), .int, .int], some .int⟩ := by decide +kernel
theorem d_jdk_52_16_12 : decode jdk_52_method_16_code 12 = .ok (.istore 4, 2) := by decide +kernel
theorem d_jdk_52_16_14 : decode jdk_52_method_16_code 14 = .ok (.iload 4, 2) := by decide +kernel
theorem d_jdk_52_16_16 : decode jdk_52_method_16_code 16 = .ok (.iload_n 2, 1) := by decide +kernel
theorem d_jdk_52_16_17 : decode jdk_52_method_16_code 17 = .ok (.if_icmp .eq 40, 3) := by decide +kernel
theorem d_jdk_52_16_57 : decode jdk_52_method_16_code 57 = .ok (.aload_n 3, 1) := by decide +kernel
theorem d_jdk_52_16_58 : decode jdk_52_method_16_code 58 = .ok (.areturn, 1) := by decide +kernel
theorem d_jdk_52_16_20 : decode jdk_52_method_16_code 20 = .ok (.aload_n 0, 1) := by decide +kernel
theorem d_jdk_52_16_21 : decode jdk_52_method_16_code 21 = .ok (.iload_n 1, 1) := by decide +kernel
theorem d_jdk_52_16_22 : decode jdk_52_method_16_code 22 = .ok (.iload_n 2, 1) := by decide +kernel
theorem d_jdk_52_16_23 : decode jdk_52_method_16_code 23 = .ok (.invokestatic 119, 3) := by decide +kernel
theorem pd_5 : parseMethodDescriptor "([CII)[B" = some ⟨[(.array .char), .int, .int], some (.array .byte)⟩ := by decide +kernel
theorem d_jdk_52_16_26 : decode jdk_52_method_16_code 26 = .ok (.astore 5, 2) := by decide +kernel
theorem d_jdk_52_16_28 : decode jdk_52_method_16_code 28 = .ok (.aload 5, 2) := by decide +kernel
theorem d_jdk_52_16_30 : decode jdk_52_method_16_code 30 = .ok (.iload 4, 2) := by decide +kernel
theorem d_jdk_52_16_32 : decode jdk_52_method_16_code 32 = .ok (.invokestatic 71, 3) := by decide +kernel
theorem pd_6 : parseMethodDescriptor "([BI)C" = some ⟨[(.array .byte), .int], some .char⟩ := by decide +kernel
theorem d_jdk_52_16_35 : decode jdk_52_method_16_code 35 = .ok (.sipush 255, 3) := by decide +kernel
theorem d_jdk_52_16_38 : decode jdk_52_method_16_code 38 = .ok (.if_icmp .gt 16, 3) := by decide +kernel
theorem d_jdk_52_16_54 : decode jdk_52_method_16_code 54 = .ok (.aload 5, 2) := by decide +kernel
theorem d_jdk_52_16_56 : decode jdk_52_method_16_code 56 = .ok (.areturn, 1) := by decide +kernel
set_option maxRecDepth 65536 in
set_option maxHeartbeats 40000000 in
theorem rm_comp3_1 (l : Launch) {Z : State} {a0 : Array Value} (hD : Wd Z a0) (tc : Addr) (kc : ClassId) (x0 : Int32) {h0 : Heap} (O0 : Ext Z.heap h0) (V_tc : Arv Z h0 tc kc .char (1 : Int32) [(.int x0)] (.int 0)) (hx0 : ¬ x0 < 0 ∧ ¬ (65535 : Int32) < x0) :
    Con l Z (⟨"java/lang/StringUTF16", "compress", "([CII)[B"⟩ : MethodName) jdk_52_method_16_code 6 (some (.array .byte)) [] ({ frames := 3, cells := 2, slots := 3, locals := 40 } : Room) #[(.ref tc), (.int 0), (.int 1)] h0 (Q_comp3_1 Z tc kc x0 h0) := by
  refine Con.walk (plainFor_of_name pn_4) ?_
  intro p e s m below meth c T0 X0 hx hZ hby hml hown hnm hret hlk e0
  obtain ⟨hw, ⟨cz, S_CS, hcz⟩, ⟨sf, S_SF, hsf⟩, S_AD, S_HI, S_LO⟩ := id hD
  have N0 := Fr.nil Z.heap.size
  have K0 : Keep h0 h0 [] := Keep.refl _ _
  refine OEnds.cast (ef_comp3_1 m tc) ?_
  refine OEnds.st (S' := T0.setTop (mkF m 1 #[vr tc, vi 0, vi 1, .unset, .unset, .unset] [(.int 1)])) (fun _ k => ?_) ?_
  · refine XS.iloadN X0.here hx rfl (hb hby d_jdk_52_16_0) rfl ?_
    exact k
  obtain ⟨T1, h1, k1, X1, e1, E1, A1, st1⟩ := newP X0 hx hZ (wq hw 24 rfl) e0 (g := (mkF m 1 #[vr tc, vi 0, vi 1, .unset, .unset, .unset] [(.int 1)])) rfl (hb hby d_jdk_52_16_1) rfl (by decide) (cap := 1) (by decide) (by decide) (by decide) (by decide)
  obtain ⟨b1, g1⟩ : ∃ z, z = h0.size := ⟨_, rfl⟩
  rw [← g1] at A1 st1
  refine OEnds.st st1 ?_
  have ne_tc_b1 : tc ≠ b1 := Nat.ne_of_lt (Nat.lt_of_lt_of_le V_tc.lt (Nat.le_of_eq g1.symm))
  have ge_b1 : Z.heap.size ≤ b1 := Nat.le_trans O0.1 (Nat.le_of_eq g1.symm)
  have sz_b1 : h0.size ≤ b1 := Nat.le_trans K0.1 (Nat.le_of_eq g1.symm)
  replace V_tc := V_tc.ext E1
  replace O0 : Ext Z.heap h1 := ext_trans O0 E1
  replace K0 : Keep h0 h1 [] := K0.ext E1
  have V_b1 : Arv Z h1 b1 k1 .byte (1 : Int32) [(.int 0)] (.int 0) := (Arv.new A1 (by decide)).pad (pad_rep [] (.int 0) 1)
  refine OEnds.st (S' := T1.setTop (mkF m 9 #[vr tc, vi 0, vi 1, vr b1, .unset, .unset] [(.int 1), (.int 0), (.ref b1), (.int 0), (.ref tc)])) (fun _ k => ?_) ?_
  · refine XS.astoreN X1.here hx rfl (hb hby d_jdk_52_16_3) rfl rfl (l' := #[vr tc, vi 0, vi 1, vr b1, .unset, .unset]) rfl ?_
    refine XS.aloadN X1.here hx rfl (hb hby d_jdk_52_16_4) rfl rfl ?_
    refine XS.iloadN X1.here hx rfl (hb hby d_jdk_52_16_5) rfl ?_
    refine XS.aloadN X1.here hx rfl (hb hby d_jdk_52_16_6) rfl rfl ?_
    show Steps p.tables e below (T1.setTop (mkF m 7 #[vr tc, vi 0, vi 1, vr b1, .unset, .unset] [(.ref b1), (.int 0), (.ref tc)])) _
    refine XS.iconst X1.here hx rfl (hb hby d_jdk_52_16_7) ?_
    refine XS.iloadN X1.here hx rfl (hb hby d_jdk_52_16_8) rfl ?_
    exact k
  obtain ⟨_, T2, h2, L2, X2, e2, hQ2, st2⟩ := callC X1 hx hZ hown (wq hw 25 rfl) (wq hw 26 rfl) (wq hw 22 rfl) (wq hw 27 rfl) (by decide) (kc := 0) (ks := 0) (Con.sb (W := 0) (rm_comp2_1 l hD tc b1 kc k1 x0 O0 V_tc V_b1 ge_b1 ne_tc_b1) hZ (wq hw 27 rfl) (wq hw 22 rfl) (by decide) (by decide)) e1 (g := (mkF m 9 #[vr tc, vi 0, vi 1, vr b1, .unset, .unset] [(.int 1), (.int 0), (.ref b1), (.int 0), (.ref tc)])) rfl (by rw [hml]; rfl) (argsL := [(.ref tc), (.int 0), (.ref b1), (.int 0), (.int 1)]) (rest := []) (lenOf pd_4 rfl) rfl (by show 2 * 0 + _ ≤ _; exact Nat.le_of_eq rfl) (hb hby d_jdk_52_16_9) (by decide) (by decide)
  obtain ⟨r2, rfl, Nq2, Kq2, hr2⟩ := hQ2
  refine OEnds.st st2 ?_
  replace N0 := Fr.app N0 Nq2
  replace V_tc := V_tc.keep Kq2 (ninS ne_tc_b1 nin0)
  replace O0 : Ext Z.heap h2 := ext_keep O0 Kq2 (allS ge_b1 all0)
  replace K0 : Keep h0 h2 [] := K0.trans Kq2 (allS (Or.inr sz_b1) all0)
  rcases hr2 with ⟨rfl, g0, Vt⟩ | ⟨rfl, gg⟩
  · refine OEnds.st (S' := T2.setTop (mkF m 58 #[vr tc, vi 0, vi 1, vr b1, vi 1, .unset] [(.ref b1)])) (fun _ k => ?_) ?_
    · refine XS.istore X2.here hx rfl (hb hby d_jdk_52_16_12) rfl (l' := #[vr tc, vi 0, vi 1, vr b1, vi 1, .unset]) rfl ?_
      refine XS.iload X2.here hx rfl (hb hby d_jdk_52_16_14) rfl ?_
      refine XS.iloadN X2.here hx rfl (hb hby d_jdk_52_16_16) rfl ?_
      refine XS.icmpYes X2.here hx rfl (pc0 := 17) (pc' := 57) rfl (hb hby d_jdk_52_16_17) rfl (teq (by decide)).1 (by decide) (by decide) ?_
      show Steps p.tables e below (T2.setTop (mkF m 57 #[vr tc, vi 0, vi 1, vr b1, vi 1, .unset] [])) _
      refine XS.aloadN X2.here hx rfl (hb hby d_jdk_52_16_57) rfl rfl ?_
      exact k
    exact OEnds.ret X2 hx hret hlk rfl (Or.inr (Or.inr (Or.inr (Or.inr ⟨rfl, rfl, rfl⟩)))) (hb hby d_jdk_52_16_58) (by decide) (by decide) (by rw [e2]; exact ⟨b1, _, rfl, N0, K0, sz_b1, Or.inl ⟨g0, Vt⟩⟩)
  · refine OEnds.st (S' := T2.setTop (mkF m 23 #[vr tc, vi 0, vi 1, vr b1, vi 0, .unset] [(.int 1), (.int 0), (.ref tc)])) (fun _ k => ?_) ?_
    · refine XS.istore X2.here hx rfl (hb hby d_jdk_52_16_12) rfl (l' := #[vr tc, vi 0, vi 1, vr b1, vi 0, .unset]) rfl ?_
      refine XS.iload X2.here hx rfl (hb hby d_jdk_52_16_14) rfl ?_
      refine XS.iloadN X2.here hx rfl (hb hby d_jdk_52_16_16) rfl ?_
      refine XS.icmpNo X2.here hx rfl (hb hby d_jdk_52_16_17) rfl (feq (by decide)).1 ?_
      show Steps p.tables e below (T2.setTop (mkF m 20 #[vr tc, vi 0, vi 1, vr b1, vi 0, .unset] [])) _
      refine XS.aloadN X2.here hx rfl (hb hby d_jdk_52_16_20) rfl rfl ?_
      refine XS.iloadN X2.here hx rfl (hb hby d_jdk_52_16_21) rfl ?_
      refine XS.iloadN X2.here hx rfl (hb hby d_jdk_52_16_22) rfl ?_
      exact k
    obtain ⟨_, T3, h3, L3, X3, e3, hQ3, st3⟩ := callC X2 hx hZ hown (wq hw 85 rfl) (wq hw 86 rfl) (wq hw 22 rfl) (wq hw 87 rfl) (by decide) (kc := 1) (ks := 2) (Con.sb (W := 0) (rm_toB1 l hD tc kc x0 O0 V_tc) hZ (wq hw 87 rfl) (wq hw 22 rfl) (by decide) (by decide)) e2 (g := (mkF m 23 #[vr tc, vi 0, vi 1, vr b1, vi 0, .unset] [(.int 1), (.int 0), (.ref tc)])) rfl (by rw [hml]; rfl) (argsL := [(.ref tc), (.int 0), (.int 1)]) (rest := []) (lenOf pd_5 rfl) rfl (by show 2 * 0 + _ ≤ _; exact Nat.le_of_eq rfl) (hb hby d_jdk_52_16_23) (by decide) (by decide)
    obtain ⟨t3, k3, rfl, Nq3, Kq3, szq3, V3⟩ := hQ3
    refine OEnds.st st3 ?_
    replace N0 := Fr.app N0 Nq3
    have ne_tc_t3 : tc ≠ t3 := Nat.ne_of_lt (Nat.lt_of_lt_of_le V_tc.lt szq3)
    have ge_t3 : Z.heap.size ≤ t3 := Nat.le_trans O0.1 szq3
    have sz_t3 : h0.size ≤ t3 := Nat.le_trans K0.1 szq3
    replace V_tc := V_tc.keep Kq3 nin0
    replace O0 : Ext Z.heap h3 := ext_keep O0 Kq3 all0
    replace K0 : Keep h0 h3 [] := K0.trans Kq3 all0
    refine OEnds.st (S' := T3.setTop (mkF m 32 #[vr tc, vi 0, vi 1, vr b1, vi 0, vr t3] [(.int 0), (.ref t3)])) (fun _ k => ?_) ?_
    · refine XS.astore X3.here hx rfl (hb hby d_jdk_52_16_26) rfl rfl (l' := #[vr tc, vi 0, vi 1, vr b1, vi 0, vr t3]) rfl ?_
      refine XS.aload X3.here hx rfl (hb hby d_jdk_52_16_28) rfl rfl ?_
      refine XS.iload X3.here hx rfl (hb hby d_jdk_52_16_30) rfl ?_
      exact k
    obtain ⟨_, T4, h4, L4, X4, e4, hQ4, st4⟩ := callC X3 hx hZ hown (wq hw 101 rfl) (wq hw 102 rfl) (wq hw 22 rfl) (wq hw 103 rfl) (by decide) (kc := 0) (ks := 0) (Con.sb (W := 0) (rm_getC1_0 l hD t3 k3 x0 O0 V3 hx0) hZ (wq hw 103 rfl) (wq hw 22 rfl) (by decide) (by decide)) e3 (g := (mkF m 32 #[vr tc, vi 0, vi 1, vr b1, vi 0, vr t3] [(.int 0), (.ref t3)])) rfl (by rw [hml]; rfl) (argsL := [(.ref t3), (.int 0)]) (rest := []) (lenOf pd_6 rfl) rfl (by show 2 * 0 + _ ≤ _; exact Nat.le_of_eq rfl) (hb hby d_jdk_52_16_32) (by decide) (by decide)
    obtain ⟨rfl, Nq4, Hq4⟩ := hQ4
    refine OEnds.st st4 ?_
    replace N0 := Fr.app N0 Nq4
    replace e4 := e4.trans Hq4
    refine OEnds.st (S' := T4.setTop (mkF m 56 #[vr tc, vi 0, vi 1, vr b1, vi 0, vr t3] [(.ref t3)])) (fun _ k => ?_) ?_
    · refine XS.sipush X4.here hx rfl (hb hby d_jdk_52_16_35) ?_
      refine XS.icmpYes X4.here hx rfl (pc0 := 38) (pc' := 54) rfl (hb hby d_jdk_52_16_38) rfl (tlt gg).2.2.1 (by decide) (by decide) ?_
      refine XS.aload X4.here hx rfl (hb hby d_jdk_52_16_54) rfl rfl ?_
      exact k
    exact OEnds.ret X4 hx hret hlk rfl (Or.inr (Or.inr (Or.inr (Or.inr ⟨rfl, rfl, rfl⟩)))) (hb hby d_jdk_52_16_56) (by decide) (by decide) (by rw [e4]; exact ⟨t3, _, rfl, N0, K0, sz_t3, Or.inr V3⟩)
-- java/lang/StringUTF16.coderFromArrayLen:([BI)B
def Q_cal1_0 (Z : State) (t : Addr) (k : ClassId) (us : List Value) (h0 : Heap) (v : Option Value) (h : Heap) (L : List Loc) : Prop := v = some (.int 0) ∧ Fr Z.heap.size L ∧ h = h0
theorem ef_cal1_0 (m : MethodId) (t : Addr) : entryFrame m #[(.ref t), (.int 1)] 2 = mkF m 0 #[vr t, vi 1] [] := by first | (simp [entryFrame, mkF, argsToLocals, Value.category, vi, vj, vr]; done) | rfl
theorem d_jdk_52_15_0 : decode jdk_52_method_15_code 0 = .ok (.iload_n 1, 1) := by decide +kernel
theorem d_jdk_52_15_1 : decode jdk_52_method_15_code 1 = .ok (.aload_n 0, 1) := by decide +kernel
theorem d_jdk_52_15_2 : decode jdk_52_method_15_code 2 = .ok (.arraylength, 1) := by decide +kernel
theorem d_jdk_52_15_3 : decode jdk_52_method_15_code 3 = .ok (.isub, 1) := by decide +kernel
theorem d_jdk_52_15_4 : decode jdk_52_method_15_code 4 = .ok (.bipush 31, 2) := by decide +kernel
theorem d_jdk_52_15_6 : decode jdk_52_method_15_code 6 = .ok (.iushr, 1) := by decide +kernel
theorem d_jdk_52_15_7 : decode jdk_52_method_15_code 7 = .ok (.i2b, 1) := by decide +kernel
theorem d_jdk_52_15_8 : decode jdk_52_method_15_code 8 = .ok (.ireturn, 1) := by decide +kernel
set_option maxRecDepth 65536 in
set_option maxHeartbeats 40000000 in
theorem rm_cal1_0 (l : Launch) {Z : State} {a0 : Array Value} (hD : Wd Z a0) (t : Addr) (k : ClassId) (us : List Value) {h0 : Heap} (O0 : Ext Z.heap h0) (V_t : Arv Z h0 t k .byte (1 : Int32) us (.int 0)) :
    Con l Z (⟨"java/lang/StringUTF16", "coderFromArrayLen", "([BI)B"⟩ : MethodName) jdk_52_method_15_code 2 (some .byte) [] ({ frames := 0, cells := 0, slots := 0, locals := 0 } : Room) #[(.ref t), (.int 1)] h0 (Q_cal1_0 Z t k us h0) := by
  refine Con.walk (plainFor_of_name pn_4) ?_
  intro p e s m below meth c T0 X0 hx hZ hby hml hown hnm hret hlk e0
  obtain ⟨hw, ⟨cz, S_CS, hcz⟩, ⟨sf, S_SF, hsf⟩, S_AD, S_HI, S_LO⟩ := id hD
  have N0 := Fr.nil Z.heap.size
  refine OEnds.cast (ef_cal1_0 m t) ?_
  refine OEnds.st (S' := T0.setTop (mkF m 2 #[vr t, vi 1] [(.ref t), (.int 1)])) (fun _ k => ?_) ?_
  · refine XS.iloadN X0.here hx rfl (hb hby d_jdk_52_15_0) rfl ?_
    refine XS.aloadN X0.here hx rfl (hb hby d_jdk_52_15_1) rfl rfl ?_
    exact k
  obtain ⟨cl_t_1, Ar_t_1, q_t_1, S_t_1, N_t_1, H_t_1, G_t_1⟩ := id V_t
  refine OEnds.st (S' := T0.setTop (mkF m 3 #[vr t, vi 1] [(.int 1), (.int 1)])) (fun tg kq9 => X0.arraylength hx (by rw [e0]; exact Ar_t_1.1) (State.isArrayOf_alike hZ.alike Ar_t_1.2.1) (g := (mkF m 2 #[vr t, vi 1] [(.ref t), (.int 1)])) rfl rfl (hb hby d_jdk_52_15_2) tg (by rw [len_of S_t_1 N_t_1]; exact kq9)) ?_
  refine OEnds.st (S' := T0.setTop (mkF m 8 #[vr t, vi 1] [(.int 0)])) (fun _ k => ?_) ?_
  · refine XS.isub X0.here hx rfl (hb hby d_jdk_52_15_3) rfl ?_
    refine XS.bipush X0.here hx rfl (hb hby d_jdk_52_15_4) ?_
    refine XS.iushr X0.here hx rfl (hb hby d_jdk_52_15_6) rfl ?_
    refine XS.i2b X0.here hx rfl (hb hby d_jdk_52_15_7) rfl ?_
    exact k
  exact OEnds.ret X0 hx hret hlk (by decide) (Or.inl ⟨rfl, by simp, _, rfl⟩) (hb hby d_jdk_52_15_8) (by decide) (by decide) (by rw [e0]; exact ⟨rfl, N0, rfl⟩)
-- java/lang/StringUTF16.coderFromArrayLen:([BI)B
def Q_cal1_1 (Z : State) (t : Addr) (k : ClassId) (us : List Value) (h0 : Heap) (v : Option Value) (h : Heap) (L : List Loc) : Prop := v = some (.int 1) ∧ Fr Z.heap.size L ∧ h = h0
theorem ef_cal1_1 (m : MethodId) (t : Addr) : entryFrame m #[(.ref t), (.int 1)] 2 = mkF m 0 #[vr t, vi 1] [] := by first | (simp [entryFrame, mkF, argsToLocals, Value.category, vi, vj, vr]; done) | rfl
set_option maxRecDepth 65536 in
set_option maxHeartbeats 40000000 in
theorem rm_cal1_1 (l : Launch) {Z : State} {a0 : Array Value} (hD : Wd Z a0) (t : Addr) (k : ClassId) (us : List Value) {h0 : Heap} (O0 : Ext Z.heap h0) (V_t : Arv Z h0 t k .byte (2 : Int32) us (.int 0)) :
    Con l Z (⟨"java/lang/StringUTF16", "coderFromArrayLen", "([BI)B"⟩ : MethodName) jdk_52_method_15_code 2 (some .byte) [] ({ frames := 0, cells := 0, slots := 0, locals := 0 } : Room) #[(.ref t), (.int 1)] h0 (Q_cal1_1 Z t k us h0) := by
  refine Con.walk (plainFor_of_name pn_4) ?_
  intro p e s m below meth c T0 X0 hx hZ hby hml hown hnm hret hlk e0
  obtain ⟨hw, ⟨cz, S_CS, hcz⟩, ⟨sf, S_SF, hsf⟩, S_AD, S_HI, S_LO⟩ := id hD
  have N0 := Fr.nil Z.heap.size
  refine OEnds.cast (ef_cal1_1 m t) ?_
  refine OEnds.st (S' := T0.setTop (mkF m 2 #[vr t, vi 1] [(.ref t), (.int 1)])) (fun _ k => ?_) ?_
  · refine XS.iloadN X0.here hx rfl (hb hby d_jdk_52_15_0) rfl ?_
    refine XS.aloadN X0.here hx rfl (hb hby d_jdk_52_15_1) rfl rfl ?_
    exact k
  obtain ⟨cl_t_1, Ar_t_1, q_t_1, S_t_1, N_t_1, H_t_1, G_t_1⟩ := id V_t
  refine OEnds.st (S' := T0.setTop (mkF m 3 #[vr t, vi 1] [(.int 2), (.int 1)])) (fun tg kq9 => X0.arraylength hx (by rw [e0]; exact Ar_t_1.1) (State.isArrayOf_alike hZ.alike Ar_t_1.2.1) (g := (mkF m 2 #[vr t, vi 1] [(.ref t), (.int 1)])) rfl rfl (hb hby d_jdk_52_15_2) tg (by rw [len_of S_t_1 N_t_1]; exact kq9)) ?_
  refine OEnds.st (S' := T0.setTop (mkF m 8 #[vr t, vi 1] [(.int 1)])) (fun _ k => ?_) ?_
  · refine XS.isub X0.here hx rfl (hb hby d_jdk_52_15_3) rfl ?_
    refine XS.bipush X0.here hx rfl (hb hby d_jdk_52_15_4) ?_
    refine XS.iushr X0.here hx rfl (hb hby d_jdk_52_15_6) rfl ?_
    refine XS.i2b X0.here hx rfl (hb hby d_jdk_52_15_7) rfl ?_
    exact k
  exact OEnds.ret X0 hx hret hlk (by decide) (Or.inl ⟨rfl, by simp, _, rfl⟩) (hb hby d_jdk_52_15_8) (by decide) (by decide) (by rw [e0]; exact ⟨rfl, N0, rfl⟩)
-- java/lang/String.<init>:([CIILjava/lang/Void;)V
def Q_strI2_1 (Z : State) (a : Addr) (tc : Addr) (kc : ClassId) (x0 : Int32) (h0 : Heap) (v : Option Value) (h : Heap) (L : List Loc) : Prop := v = none ∧ Fr Z.heap.size L ∧ Keep h0 h [a] ∧ Exa Z h a "java/lang/String" ∧ ∃ (t : Addr) (k : ClassId), Fld Z h a "java/lang/String" "value" "[B" (.ref t) ∧ (((¬ (255 : Int32) < x0) ∧ Fld Z h a "java/lang/String" "coder" "B" (.int 0) ∧ Arv Z h t k .byte (1 : Int32) [(.int (x0.toInt8.toInt32))] (.int 0)) ∨ (Fld Z h a "java/lang/String" "coder" "B" (.int 1) ∧ Arv Z h t k .byte (2 : Int32) [(.int (x0.toInt8.toInt32)), (.int ((x0 >>> ((8 : Int32) &&& 31)).toInt8.toInt32))] (.int 0)))
theorem ef_strI2_1 (m : MethodId) (a : Addr) (tc : Addr) : entryFrame m #[(.ref a), (.ref tc), (.int 0), (.int 1), .null] 6 = mkF m 0 #[vr a, vr tc, vi 0, vi 1, .val .null, .unset] [] := by first | (simp [entryFrame, mkF, argsToLocals, Value.category, vi, vj, vr]; done) | rfl
theorem d_jdk_42_149_0 : decode jdk_42_method_149_code 0 = .ok (.aload_n 0, 1) := by decide +kernel
theorem d_jdk_42_149_1 : decode jdk_42_method_149_code 1 = .ok (.invokespecial 1, 3) := by decide +kernel
theorem d_jdk_42_149_4 : decode jdk_42_method_149_code 4 = .ok (.iload_n 3, 1) := by decide +kernel
theorem d_jdk_42_149_5 : decode jdk_42_method_149_code 5 = .ok (.ifCond .ne 22, 3) := by decide +kernel
theorem d_jdk_42_149_27 : decode jdk_42_method_149_code 27 = .ok (.getstatic 38, 3) := by decide +kernel
theorem d_jdk_42_149_30 : decode jdk_42_method_149_code 30 = .ok (.ifCond .eq 28, 3) := by decide +kernel
theorem d_jdk_42_149_33 : decode jdk_42_method_149_code 33 = .ok (.aload_n 1, 1) := by decide +kernel
theorem d_jdk_42_149_34 : decode jdk_42_method_149_code 34 = .ok (.iload_n 2, 1) := by decide +kernel
theorem d_jdk_42_149_35 : decode jdk_42_method_149_code 35 = .ok (.iload_n 3, 1) := by decide +kernel
theorem d_jdk_42_149_36 : decode jdk_42_method_149_code 36 = .ok (.invokestatic 177, 3) := by decide +kernel
theorem d_jdk_42_149_39 : decode jdk_42_method_149_code 39 = .ok (.astore 5, 2) := by decide +kernel
theorem d_jdk_42_149_41 : decode jdk_42_method_149_code 41 = .ok (.aload_n 0, 1) := by decide +kernel
theorem d_jdk_42_149_42 : decode jdk_42_method_149_code 42 = .ok (.aload 5, 2) := by decide +kernel
theorem d_jdk_42_149_44 : decode jdk_42_method_149_code 44 = .ok (.iload_n 3, 1) := by decide +kernel
theorem d_jdk_42_149_45 : decode jdk_42_method_149_code 45 = .ok (.invokestatic 47, 3) := by decide +kernel
theorem pd_7 : parseMethodDescriptor "([BI)B" = some ⟨[(.array .byte), .int], some .byte⟩ := by decide +kernel
theorem d_jdk_42_149_48 : decode jdk_42_method_149_code 48 = .ok (.putfield 15, 3) := by decide +kernel
theorem d_jdk_42_149_51 : decode jdk_42_method_149_code 51 = .ok (.aload_n 0, 1) := by decide +kernel
theorem d_jdk_42_149_52 : decode jdk_42_method_149_code 52 = .ok (.aload 5, 2) := by decide +kernel
theorem d_jdk_42_149_54 : decode jdk_42_method_149_code 54 = .ok (.putfield 9, 3) := by decide +kernel
theorem d_jdk_42_149_57 : decode jdk_42_method_149_code 57 = .ok (.return_, 1) := by decide +kernel
set_option maxRecDepth 65536 in
set_option maxHeartbeats 40000000 in
theorem rm_strI2_1 (l : Launch) {Z : State} {a0 : Array Value} (hD : Wd Z a0) (a : Addr) (tc : Addr) (kc : ClassId) (x0 : Int32) {h0 : Heap} (O0 : Ext Z.heap h0) (E_a : Exa Z h0 a "java/lang/String") (F_value_a : Fld Z h0 a "java/lang/String" "value" "[B" .null) (F_coder_a : Fld Z h0 a "java/lang/String" "coder" "B" (.int 0)) (ge_a : Z.heap.size ≤ a) (V_tc : Arv Z h0 tc kc .char (1 : Int32) [(.int x0)] (.int 0)) (hx0 : ¬ x0 < 0 ∧ ¬ (65535 : Int32) < x0) :
    Con l Z (⟨"java/lang/String", "<init>", "([CIILjava/lang/Void;)V"⟩ : MethodName) jdk_42_method_149_code 6 none [] ({ frames := 4, cells := 2, slots := 3, locals := 57 } : Room) #[(.ref a), (.ref tc), (.int 0), (.int 1), .null] h0 (Q_strI2_1 Z a tc kc x0 h0) := by
  refine Con.walk (plainFor_of_name pn_1) ?_
  intro p e s m below meth c T0 X0 hx hZ hby hml hown hnm hret hlk e0
  obtain ⟨hw, ⟨cz, S_CS, hcz⟩, ⟨sf, S_SF, hsf⟩, S_AD, S_HI, S_LO⟩ := id hD
  have N0 := Fr.nil Z.heap.size
  have K0 : Keep h0 h0 [a] := Keep.refl _ _
  have E_a0 := E_a
  refine OEnds.cast (ef_strI2_1 m a tc) ?_
  refine OEnds.st (S' := T0.setTop (mkF m 1 #[vr a, vr tc, vi 0, vi 1, .val .null, .unset] [(.ref a)])) (fun _ k => ?_) ?_
  · refine XS.aloadN X0.here hx rfl (hb hby d_jdk_42_149_0) rfl rfl ?_
    exact k
  obtain ⟨T1, X1, e1, st1⟩ := initO X0 hx hZ hown (wq hw 16 rfl) (wq hw 17 rfl) (wq hw 18 rfl) e0 (g := (mkF m 1 #[vr a, vr tc, vi 0, vi 1, .val .null, .unset] [(.ref a)])) rfl (by rw [hml]; rfl) rfl (hb hby d_jdk_42_149_1) (by decide) (W := 0) (by show 2 * 0 + _ ≤ _; exact Nat.le_of_eq rfl) (by decide)
  refine OEnds.st st1 ?_
  refine OEnds.st (S' := T1.setTop (mkF m 27 #[vr a, vr tc, vi 0, vi 1, .val .null, .unset] [])) (fun _ k => ?_) ?_
  · refine XS.iloadN X1.here hx rfl (hb hby d_jdk_42_149_4) rfl ?_
    refine XS.ifYes X1.here hx rfl (pc0 := 5) (pc' := 27) rfl (hb hby d_jdk_42_149_5) rfl ((if0 _ _).trans (feq (by decide)).2) (by decide) (by decide) ?_
    exact k
  obtain ⟨T2, X2, e2, st2⟩ := getS2 X1 hx hZ hown (host := "") (Or.inl (wq hw 19 rfl)) Via.refl e1 (S_CS.ext O0) (g := (mkF m 27 #[vr a, vr tc, vi 0, vi 1, .val .null, .unset] [])) rfl (hb hby d_jdk_42_149_27)
  refine OEnds.st st2 ?_
  refine OEnds.st (S' := T2.setTop (mkF m 36 #[vr a, vr tc, vi 0, vi 1, .val .null, .unset] [(.int 1), (.int 0), (.ref tc)])) (fun _ k => ?_) ?_
  · refine XS.ifNo X2.here hx rfl (hb hby d_jdk_42_149_30) rfl ((if0 _ _).trans (feq hcz).1) ?_
    refine XS.aloadN X2.here hx rfl (hb hby d_jdk_42_149_33) rfl rfl ?_
    refine XS.iloadN X2.here hx rfl (hb hby d_jdk_42_149_34) rfl ?_
    refine XS.iloadN X2.here hx rfl (hb hby d_jdk_42_149_35) rfl ?_
    exact k
  obtain ⟨_, T3, h3, L3, X3, e3, hQ3, st3⟩ := callC X2 hx hZ hown (wq hw 20 rfl) (wq hw 21 rfl) (wq hw 22 rfl) (wq hw 23 rfl) (by decide) (kc := 2) (ks := 3) (Con.sb (W := 0) (rm_comp3_1 l hD tc kc x0 O0 V_tc hx0) hZ (wq hw 23 rfl) (wq hw 22 rfl) (by decide) (by decide)) e2 (g := (mkF m 36 #[vr a, vr tc, vi 0, vi 1, .val .null, .unset] [(.int 1), (.int 0), (.ref tc)])) rfl (by rw [hml]; rfl) (argsL := [(.ref tc), (.int 0), (.int 1)]) (rest := []) (lenOf pd_5 rfl) rfl (by show 2 * 0 + _ ≤ _; exact Nat.le_of_eq rfl) (hb hby d_jdk_42_149_36) (by decide) (by decide)
  obtain ⟨t3, k3, rfl, Nq3, Kq3, szq3, hd3⟩ := hQ3
  refine OEnds.st st3 ?_
  replace N0 := Fr.app N0 Nq3
  have ne_a_t3 : a ≠ t3 := Nat.ne_of_lt (Nat.lt_of_lt_of_le E_a.lt szq3)
  have ne_tc_t3 : tc ≠ t3 := Nat.ne_of_lt (Nat.lt_of_lt_of_le V_tc.lt szq3)
  have ge_t3 : Z.heap.size ≤ t3 := Nat.le_trans O0.1 szq3
  have sz_t3 : h0.size ≤ t3 := Nat.le_trans K0.1 szq3
  replace E_a := E_a.keep Kq3
  replace F_value_a := F_value_a.keep Kq3 nin0
  replace F_coder_a := F_coder_a.keep Kq3 nin0
  replace V_tc := V_tc.keep Kq3 nin0
  replace O0 : Ext Z.heap h3 := ext_keep O0 Kq3 all0
  replace K0 : Keep h0 h3 [a] := K0.trans Kq3 all0
  rcases hd3 with ⟨g0, Vt⟩ | Vt
  · refine OEnds.st (S' := T3.setTop (mkF m 45 #[vr a, vr tc, vi 0, vi 1, .val .null, vr t3] [(.int 1), (.ref t3), (.ref a)])) (fun _ k => ?_) ?_
    · refine XS.astore X3.here hx rfl (hb hby d_jdk_42_149_39) rfl rfl (l' := #[vr a, vr tc, vi 0, vi 1, .val .null, vr t3]) rfl ?_
      refine XS.aloadN X3.here hx rfl (hb hby d_jdk_42_149_41) rfl rfl ?_
      refine XS.aload X3.here hx rfl (hb hby d_jdk_42_149_42) rfl rfl ?_
      refine XS.iloadN X3.here hx rfl (hb hby d_jdk_42_149_44) rfl ?_
      exact k
    obtain ⟨_, T4, h4, L4, X4, e4, hQ4, st4⟩ := callC X3 hx hZ hown (wq hw 28 rfl) (wq hw 29 rfl) (wq hw 22 rfl) (wq hw 30 rfl) (by decide) (kc := 0) (ks := 0) (Con.sb (W := 1) (rm_cal1_0 l hD t3 k3 [(.int (x0.toInt8.toInt32))] O0 Vt) hZ (wq hw 30 rfl) (wq hw 22 rfl) (by decide) (by decide)) e3 (g := (mkF m 45 #[vr a, vr tc, vi 0, vi 1, .val .null, vr t3] [(.int 1), (.ref t3), (.ref a)])) rfl (by rw [hml]; rfl) (argsL := [(.ref t3), (.int 1)]) (rest := [(.ref a)]) (lenOf pd_7 rfl) rfl (by show 2 * 0 + _ ≤ _; exact Nat.le_of_eq rfl) (hb hby d_jdk_42_149_45) (by decide) (by decide)
    obtain ⟨rfl, Nq4, Hq4⟩ := hQ4
    refine OEnds.st st4 ?_
    replace N0 := Fr.app N0 Nq4
    replace e4 := e4.trans Hq4
    have ne_tc_a : tc ≠ a := Ne.symm (ne_arv E_a (wq hw 7 rfl) V_tc)
    obtain ⟨T5, h5, X5, e5, W5, st5⟩ := putF X4 hx hZ hown (host := "") (Or.inl (wq hw 31 rfl)) Via.refl e4 F_coder_a E_a (Or.inr ⟨(wq hw 32 rfl), rfl, hnm⟩) (wq hw 7 rfl) (ty := .byte) (by decide) rfl rfl (g := (mkF m 48 #[vr a, vr tc, vi 0, vi 1, .val .null, vr t3] [(.int 0), (.ref a)])) rfl rfl (hb hby d_jdk_42_149_48)
    refine OEnds.st st5 ?_
    replace E_a := E_a.wr W5
    replace F_value_a := F_value_a.other W5 (Or.inr (slot_ne (Or.inr (wq hw 34 rfl)) (Or.inr (wq hw 32 rfl)) (by decide) (t := (.array .byte)) (t' := .byte) (by decide) (by decide)))
    replace F_coder_a := F_coder_a.same W5
    replace V_tc := V_tc.other W5 ne_tc_a
    replace Vt := Vt.other W5 (Ne.symm (Nat.ne_of_lt (Nat.lt_of_lt_of_le E_a0.lt szq3)))
    replace O0 : Ext Z.heap h5 := ext_wr O0 W5 ge_a
    replace N0 := Fr.snoc X5 N0 ge_a
    replace K0 : Keep h0 h5 [a] := K0.wr W5 (Or.inl (List.mem_of_getElem? (i := 0) rfl))
    refine OEnds.st (S' := T5.setTop (mkF m 54 #[vr a, vr tc, vi 0, vi 1, .val .null, vr t3] [(.ref t3), (.ref a)])) (fun _ k => ?_) ?_
    · refine XS.aloadN X5.here hx rfl (hb hby d_jdk_42_149_51) rfl rfl ?_
      refine XS.aload X5.here hx rfl (hb hby d_jdk_42_149_52) rfl rfl ?_
      exact k
    obtain ⟨T6, h6, X6, e6, W6, st6⟩ := putF X5 hx hZ hown (host := "") (Or.inl (wq hw 33 rfl)) Via.refl e5 F_value_a E_a (Or.inr ⟨(wq hw 34 rfl), rfl, hnm⟩) (wq hw 7 rfl) (ty := (.array .byte)) (by decide) rfl rfl (g := (mkF m 54 #[vr a, vr tc, vi 0, vi 1, .val .null, vr t3] [(.ref t3), (.ref a)])) rfl rfl (hb hby d_jdk_42_149_54)
    refine OEnds.st st6 ?_
    replace E_a := E_a.wr W6
    replace F_value_a := F_value_a.same W6
    replace F_coder_a := F_coder_a.other W6 (Or.inr (slot_ne (Or.inr (wq hw 32 rfl)) (Or.inr (wq hw 34 rfl)) (by decide) (t := .byte) (t' := (.array .byte)) (by decide) (by decide)))
    replace V_tc := V_tc.other W6 ne_tc_a
    replace Vt := Vt.other W6 (Ne.symm (Nat.ne_of_lt (Nat.lt_of_lt_of_le E_a0.lt szq3)))
    replace O0 : Ext Z.heap h6 := ext_wr O0 W6 ge_a
    replace N0 := Fr.snoc X6 N0 ge_a
    replace K0 : Keep h0 h6 [a] := K0.wr W6 (Or.inl (List.mem_of_getElem? (i := 0) rfl))
    exact OEnds.retV X6 hx hret hlk (hb hby d_jdk_42_149_57) (by decide) (by decide) (by rw [e6]; exact ⟨rfl, N0, K0, E_a, t3, _, F_value_a, Or.inl ⟨g0, F_coder_a, Vt⟩⟩)
  · refine OEnds.st (S' := T3.setTop (mkF m 45 #[vr a, vr tc, vi 0, vi 1, .val .null, vr t3] [(.int 1), (.ref t3), (.ref a)])) (fun _ k => ?_) ?_
    · refine XS.astore X3.here hx rfl (hb hby d_jdk_42_149_39) rfl rfl (l' := #[vr a, vr tc, vi 0, vi 1, .val .null, vr t3]) rfl ?_
      refine XS.aloadN X3.here hx rfl (hb hby d_jdk_42_149_41) rfl rfl ?_
      refine XS.aload X3.here hx rfl (hb hby d_jdk_42_149_42) rfl rfl ?_
      refine XS.iloadN X3.here hx rfl (hb hby d_jdk_42_149_44) rfl ?_
      exact k
    obtain ⟨_, T4, h4, L4, X4, e4, hQ4, st4⟩ := callC X3 hx hZ hown (wq hw 28 rfl) (wq hw 29 rfl) (wq hw 22 rfl) (wq hw 30 rfl) (by decide) (kc := 0) (ks := 0) (Con.sb (W := 1) (rm_cal1_1 l hD t3 k3 [(.int (x0.toInt8.toInt32)), (.int ((x0 >>> ((8 : Int32) &&& 31)).toInt8.toInt32))] O0 Vt) hZ (wq hw 30 rfl) (wq hw 22 rfl) (by decide) (by decide)) e3 (g := (mkF m 45 #[vr a, vr tc, vi 0, vi 1, .val .null, vr t3] [(.int 1), (.ref t3), (.ref a)])) rfl (by rw [hml]; rfl) (argsL := [(.ref t3), (.int 1)]) (rest := [(.ref a)]) (lenOf pd_7 rfl) rfl (by show 2 * 0 + _ ≤ _; exact Nat.le_of_eq rfl) (hb hby d_jdk_42_149_45) (by decide) (by decide)
    obtain ⟨rfl, Nq4, Hq4⟩ := hQ4
    refine OEnds.st st4 ?_
    replace N0 := Fr.app N0 Nq4
    replace e4 := e4.trans Hq4
    have ne_tc_a : tc ≠ a := Ne.symm (ne_arv E_a (wq hw 7 rfl) V_tc)
    obtain ⟨T5, h5, X5, e5, W5, st5⟩ := putF X4 hx hZ hown (host := "") (Or.inl (wq hw 31 rfl)) Via.refl e4 F_coder_a E_a (Or.inr ⟨(wq hw 32 rfl), rfl, hnm⟩) (wq hw 7 rfl) (ty := .byte) (by decide) rfl rfl (g := (mkF m 48 #[vr a, vr tc, vi 0, vi 1, .val .null, vr t3] [(.int 1), (.ref a)])) rfl rfl (hb hby d_jdk_42_149_48)
    refine OEnds.st st5 ?_
    replace E_a := E_a.wr W5
    replace F_value_a := F_value_a.other W5 (Or.inr (slot_ne (Or.inr (wq hw 34 rfl)) (Or.inr (wq hw 32 rfl)) (by decide) (t := (.array .byte)) (t' := .byte) (by decide) (by decide)))
    replace F_coder_a := F_coder_a.same W5
    replace V_tc := V_tc.other W5 ne_tc_a
    replace Vt := Vt.other W5 (Ne.symm (Nat.ne_of_lt (Nat.lt_of_lt_of_le E_a0.lt szq3)))
    replace O0 : Ext Z.heap h5 := ext_wr O0 W5 ge_a
    replace N0 := Fr.snoc X5 N0 ge_a
    replace K0 : Keep h0 h5 [a] := K0.wr W5 (Or.inl (List.mem_of_getElem? (i := 0) rfl))
    refine OEnds.st (S' := T5.setTop (mkF m 54 #[vr a, vr tc, vi 0, vi 1, .val .null, vr t3] [(.ref t3), (.ref a)])) (fun _ k => ?_) ?_
    · refine XS.aloadN X5.here hx rfl (hb hby d_jdk_42_149_51) rfl rfl ?_
      refine XS.aload X5.here hx rfl (hb hby d_jdk_42_149_52) rfl rfl ?_
      exact k
    obtain ⟨T6, h6, X6, e6, W6, st6⟩ := putF X5 hx hZ hown (host := "") (Or.inl (wq hw 33 rfl)) Via.refl e5 F_value_a E_a (Or.inr ⟨(wq hw 34 rfl), rfl, hnm⟩) (wq hw 7 rfl) (ty := (.array .byte)) (by decide) rfl rfl (g := (mkF m 54 #[vr a, vr tc, vi 0, vi 1, .val .null, vr t3] [(.ref t3), (.ref a)])) rfl rfl (hb hby d_jdk_42_149_54)
    refine OEnds.st st6 ?_
    replace E_a := E_a.wr W6
    replace F_value_a := F_value_a.same W6
    replace F_coder_a := F_coder_a.other W6 (Or.inr (slot_ne (Or.inr (wq hw 32 rfl)) (Or.inr (wq hw 34 rfl)) (by decide) (t := .byte) (t' := (.array .byte)) (by decide) (by decide)))
    replace V_tc := V_tc.other W6 ne_tc_a
    replace Vt := Vt.other W6 (Ne.symm (Nat.ne_of_lt (Nat.lt_of_lt_of_le E_a0.lt szq3)))
    replace O0 : Ext Z.heap h6 := ext_wr O0 W6 ge_a
    replace N0 := Fr.snoc X6 N0 ge_a
    replace K0 : Keep h0 h6 [a] := K0.wr W6 (Or.inl (List.mem_of_getElem? (i := 0) rfl))
    exact OEnds.retV X6 hx hret hlk (hb hby d_jdk_42_149_57) (by decide) (by decide) (by rw [e6]; exact ⟨rfl, N0, K0, E_a, t3, _, F_value_a, Or.inr ⟨F_coder_a, Vt⟩⟩)
-- java/lang/String.<init>:([C)V
def Q_strI1_1 (Z : State) (a : Addr) (tc : Addr) (kc : ClassId) (x0 : Int32) (h0 : Heap) (v : Option Value) (h : Heap) (L : List Loc) : Prop := v = none ∧ Fr Z.heap.size L ∧ Keep h0 h [a] ∧ Exa Z h a "java/lang/String" ∧ ∃ (t : Addr) (k : ClassId), Fld Z h a "java/lang/String" "value" "[B" (.ref t) ∧ (((¬ (255 : Int32) < x0) ∧ Fld Z h a "java/lang/String" "coder" "B" (.int 0) ∧ Arv Z h t k .byte (1 : Int32) [(.int (x0.toInt8.toInt32))] (.int 0)) ∨ (Fld Z h a "java/lang/String" "coder" "B" (.int 1) ∧ Arv Z h t k .byte (2 : Int32) [(.int (x0.toInt8.toInt32)), (.int ((x0 >>> ((8 : Int32) &&& 31)).toInt8.toInt32))] (.int 0)))
theorem ef_strI1_1 (m : MethodId) (a : Addr) (tc : Addr) : entryFrame m #[(.ref a), (.ref tc)] 2 = mkF m 0 #[vr a, vr tc] [] := by first | (simp [entryFrame, mkF, argsToLocals, Value.category, vi, vj, vr]; done) | rfl
theorem d_jdk_42_3_0 : decode jdk_42_method_3_code 0 = .ok (.aload_n 0, 1) := by decide +kernel
theorem d_jdk_42_3_1 : decode jdk_42_method_3_code 1 = .ok (.aload_n 1, 1) := by decide +kernel
theorem d_jdk_42_3_2 : decode jdk_42_method_3_code 2 = .ok (.iconst 0, 1) := by decide +kernel
theorem d_jdk_42_3_3 : decode jdk_42_method_3_code 3 = .ok (.aload_n 1, 1) := by decide +kernel
theorem d_jdk_42_3_4 : decode jdk_42_method_3_code 4 = .ok (.arraylength, 1) := by decide +kernel
theorem d_jdk_42_3_5 : decode jdk_42_method_3_code 5 = .ok (.aconst_null, 1) := by decide +kernel
theorem d_jdk_42_3_6 : decode jdk_42_method_3_code 6 = .ok (.invokespecial 27, 3) := by decide +kernel
theorem pd_8 : parseMethodDescriptor "([CIILjava/lang/Void;)V" = some ⟨[(.array .char), .int, .int, (.object "java/lang/Void")], none⟩ := by decide +kernel
theorem d_jdk_42_3_9 : decode jdk_42_method_3_code 9 = .ok (.return_, 1) := by decide +kernel
set_option maxRecDepth 65536 in
set_option maxHeartbeats 40000000 in
theorem rm_strI1_1 (l : Launch) {Z : State} {a0 : Array Value} (hD : Wd Z a0) (a : Addr) (tc : Addr) (kc : ClassId) (x0 : Int32) {h0 : Heap} (O0 : Ext Z.heap h0) (E_a : Exa Z h0 a "java/lang/String") (F_value_a : Fld Z h0 a "java/lang/String" "value" "[B" .null) (F_coder_a : Fld Z h0 a "java/lang/String" "coder" "B" (.int 0)) (ge_a : Z.heap.size ≤ a) (V_tc : Arv Z h0 tc kc .char (1 : Int32) [(.int x0)] (.int 0)) (hx0 : ¬ x0 < 0 ∧ ¬ (65535 : Int32) < x0) :
    Con l Z (⟨"java/lang/String", "<init>", "([C)V"⟩ : MethodName) jdk_42_method_3_code 2 none [] ({ frames := 5, cells := 2, slots := 3, locals := 74 } : Room) #[(.ref a), (.ref tc)] h0 (Q_strI1_1 Z a tc kc x0 h0) := by
  refine Con.walk (plainFor_of_name pn_1) ?_
  intro p e s m below meth c T0 X0 hx hZ hby hml hown hnm hret hlk e0
  obtain ⟨hw, ⟨cz, S_CS, hcz⟩, ⟨sf, S_SF, hsf⟩, S_AD, S_HI, S_LO⟩ := id hD
  have N0 := Fr.nil Z.heap.size
  have K0 : Keep h0 h0 [a] := Keep.refl _ _
  refine OEnds.cast (ef_strI1_1 m a tc) ?_
  refine OEnds.st (S' := T0.setTop (mkF m 4 #[vr a, vr tc] [(.ref tc), (.int 0), (.ref tc), (.ref a)])) (fun _ k => ?_) ?_
  · refine XS.aloadN X0.here hx rfl (hb hby d_jdk_42_3_0) rfl rfl ?_
    refine XS.aloadN X0.here hx rfl (hb hby d_jdk_42_3_1) rfl rfl ?_
    refine XS.iconst X0.here hx rfl (hb hby d_jdk_42_3_2) ?_
    refine XS.aloadN X0.here hx rfl (hb hby d_jdk_42_3_3) rfl rfl ?_
    exact k
  obtain ⟨cl_tc_1, Ar_tc_1, q_tc_1, S_tc_1, N_tc_1, H_tc_1, G_tc_1⟩ := id V_tc
  refine OEnds.st (S' := T0.setTop (mkF m 5 #[vr a, vr tc] [(.int 1), (.int 0), (.ref tc), (.ref a)])) (fun tg kq9 => X0.arraylength hx (by rw [e0]; exact Ar_tc_1.1) (State.isArrayOf_alike hZ.alike Ar_tc_1.2.1) (g := (mkF m 4 #[vr a, vr tc] [(.ref tc), (.int 0), (.ref tc), (.ref a)])) rfl rfl (hb hby d_jdk_42_3_4) tg (by rw [len_of S_tc_1 N_tc_1]; exact kq9)) ?_
  refine OEnds.st (S' := T0.setTop (mkF m 6 #[vr a, vr tc] [.null, (.int 1), (.int 0), (.ref tc), (.ref a)])) (fun _ k => ?_) ?_
  · refine XS.aconstNull X0.here hx rfl (hb hby d_jdk_42_3_5) ?_
    exact k
  obtain ⟨_, T2, h2, L2, X2, e2, hQ2, st2⟩ := specC X0 hx hZ rfl hown (wq hw 12 rfl) (wq hw 13 rfl) (wq hw 15 rfl) (by decide) (kc := 2) (ks := 3) (Con.sb (W := 0) (rm_strI2_1 l hD a tc kc x0 O0 E_a F_value_a F_coder_a ge_a V_tc hx0) hZ (wq hw 15 rfl) (wq hw 8 rfl) (by decide) (by decide)) e0 (a := a) (g := (mkF m 6 #[vr a, vr tc] [.null, (.int 1), (.int 0), (.ref tc), (.ref a)])) rfl (by rw [hml]; rfl) (argsL := [(.ref tc), (.int 0), (.int 1), .null]) (rest := []) (lenOf pd_8 rfl) rfl (by show 2 * 0 + _ ≤ _; exact Nat.le_of_eq rfl) (hb hby d_jdk_42_3_6) (by decide) (by decide)
  obtain ⟨rfl, Nq2, Kq2, R2⟩ := hQ2
  refine OEnds.st st2 ?_
  replace N0 := Fr.app N0 Nq2
  have ne_tc_a : tc ≠ a := Ne.symm (ne_arv E_a (wq hw 7 rfl) V_tc)
  replace E_a := E_a.keep Kq2
  replace V_tc := V_tc.keep Kq2 (ninS ne_tc_a nin0)
  replace O0 : Ext Z.heap h2 := ext_keep O0 Kq2 (allS ge_a all0)
  replace K0 : Keep h0 h2 [a] := K0.trans Kq2 (allS (Or.inl (List.mem_of_getElem? (i := 0) rfl)) all0)
  exact OEnds.retV X2 hx hret hlk (hb hby d_jdk_42_3_9) (by decide) (by decide) (by rw [e2]; exact ⟨rfl, N0, K0, R2⟩)
-- java/lang/StringUTF16.compress:([CI[BII)I
def Q_comp2_2 (Z : State) (tc : Addr) (t : Addr) (kc k : ClassId) (x0 x1 : Int32) (h0 : Heap) (v : Option Value) (h : Heap) (L : List Loc) : Prop := ∃ r : Int32, v = some (.int r) ∧ Fr Z.heap.size L ∧ Keep h0 h [t] ∧ ((r = 2 ∧ ¬ (255 : Int32) < x0 ∧ ¬ (255 : Int32) < x1 ∧ Arv Z h t k .byte (2 : Int32) [(.int (x0.toInt8.toInt32)), (.int (x1.toInt8.toInt32))] (.int 0)) ∨ (r = 0 ∧ (255 : Int32) < x0) ∨ (r = 1 ∧ (255 : Int32) < x1))
theorem ef_comp2_2 (m : MethodId) (tc : Addr) (t : Addr) : entryFrame m #[(.ref tc), (.int 0), (.ref t), (.int 0), (.int 2)] 7 = mkF m 0 #[vr tc, vi 0, vr t, vi 0, vi 2, .unset, .unset] [] := by first | (simp [entryFrame, mkF, argsToLocals, Value.category, vi, vj, vr]; done) | rfl
set_option maxRecDepth 65536 in
set_option maxHeartbeats 40000000 in
theorem rm_comp2_2 (l : Launch) {Z : State} {a0 : Array Value} (hD : Wd Z a0) (tc : Addr) (t : Addr) (kc k : ClassId) (x0 x1 : Int32) {h0 : Heap} (O0 : Ext Z.heap h0) (V_tc : Arv Z h0 tc kc .char (2 : Int32) [(.int x0), (.int x1)] (.int 0)) (V_t : Arv Z h0 t k .byte (2 : Int32) [(.int 0), (.int 0)] (.int 0)) (ge_t : Z.heap.size ≤ t) (ne_tc_t : tc ≠ t) :
    Con l Z (⟨"java/lang/StringUTF16", "compress", "([CI[BII)I"⟩ : MethodName) jdk_52_method_21_code 7 (some .int) [] ({ frames := 0, cells := 0, slots := 0, locals := 0 } : Room) #[(.ref tc), (.int 0), (.ref t), (.int 0), (.int 2)] h0 (Q_comp2_2 Z tc t kc k x0 x1 h0) := by
  refine Con.walk (plainFor_of_name pn_4) ?_
  intro p e s m below meth c T0 X0 hx hZ hby hml hown hnm hret hlk e0
  obtain ⟨hw, ⟨cz, S_CS, hcz⟩, ⟨sf, S_SF, hsf⟩, S_AD, S_HI, S_LO⟩ := id hD
  have N0 := Fr.nil Z.heap.size
  have K0 : Keep h0 h0 [t] := Keep.refl _ _
  refine OEnds.cast (ef_comp2_2 m tc t) ?_
  refine OEnds.st (S' := T0.setTop (mkF m 3 #[vr tc, vi 0, vr t, vi 0, vi 2, vi 0, .unset] [])) (fun _ k => ?_) ?_
  · refine XS.iconst X0.here hx rfl (hb hby d_jdk_52_21_0) ?_
    refine XS.istore X0.here hx rfl (hb hby d_jdk_52_21_1) rfl (l' := #[vr tc, vi 0, vr t, vi 0, vi 2, vi 0, .unset]) rfl ?_
    exact k
  refine OEnds.st (S' := T0.setTop (mkF m 12 #[vr tc, vi 0, vr t, vi 0, vi 2, vi 0, .unset] [(.int 0), (.ref tc)])) (fun _ k => ?_) ?_
  · refine XS.iload X0.here hx rfl (hb hby d_jdk_52_21_3) rfl ?_
    refine XS.iload X0.here hx rfl (hb hby d_jdk_52_21_5) rfl ?_
    refine XS.icmpNo X0.here hx rfl (hb hby d_jdk_52_21_7) rfl (tlt (by decide)).2.1 ?_
    refine XS.aloadN X0.here hx rfl (hb hby d_jdk_52_21_10) rfl rfl ?_
    show Steps p.tables e below (T0.setTop (mkF m 11 #[vr tc, vi 0, vr t, vi 0, vi 2, vi 0, .unset] [(.ref tc)])) _
    refine XS.iloadN X0.here hx rfl (hb hby d_jdk_52_21_11) rfl ?_
    exact k
  obtain ⟨cl_tc_1, Ar_tc_1, q_tc_1, S_tc_1, N_tc_1, H_tc_1, G_tc_1⟩ := id V_tc
  refine OEnds.st (S' := T0.setTop (mkF m 13 #[vr tc, vi 0, vr t, vi 0, vi 2, vi 0, .unset] [(.int x0)])) (X0.caload hx (j := (0 : Int32)) (v := (.int x0)) (by rw [e0]; exact Ar_tc_1.1) (State.isArrayOf_alike hZ.alike Ar_tc_1.2.1) Ar_tc_1.2.2 (inb_of S_tc_1 ⟨by decide, by decide⟩) (H_tc_1.at (inb_of S_tc_1 ⟨by decide, by decide⟩) rfl) (g := (mkF m 12 #[vr tc, vi 0, vr t, vi 0, vi 2, vi 0, .unset] [(.int 0), (.ref tc)])) rfl rfl (hb hby d_jdk_52_21_12)) ?_
  refine OEnds.st (S' := T0.setTop (mkF m 20 #[vr tc, vi 0, vr t, vi 0, vi 2, vi 0, vi x0] [(.int 255), (.int x0)])) (fun _ k => ?_) ?_
  · refine XS.istore X0.here hx rfl (hb hby d_jdk_52_21_13) rfl (l' := #[vr tc, vi 0, vr t, vi 0, vi 2, vi 0, vi x0]) rfl ?_
    refine XS.iload X0.here hx rfl (hb hby d_jdk_52_21_15) rfl ?_
    refine XS.sipush X0.here hx rfl (hb hby d_jdk_52_21_17) ?_
    exact k
  rcases Classical.em ((255 : Int32) < x0) with g0 | g0
  · refine OEnds.st (S' := T0.setTop (mkF m 25 #[vr tc, vi 0, vr t, vi 0, vi 2, vi 0, vi x0] [(.int 0)])) (fun _ k => ?_) ?_
    · refine XS.icmpNo X0.here hx rfl (hb hby d_jdk_52_21_20) rfl (tlt g0).2.2.2 ?_
      refine XS.iload X0.here hx rfl (hb hby d_jdk_52_21_23) rfl ?_
      exact k
    exact OEnds.ret X0 hx hret hlk rfl (Or.inl ⟨rfl, by simp, _, rfl⟩) (hb hby d_jdk_52_21_25) (by decide) (by decide) (by rw [e0]; exact ⟨_, rfl, N0, K0, Or.inr (Or.inl ⟨rfl, g0⟩)⟩)
  · refine OEnds.st (S' := T0.setTop (mkF m 31 #[vr tc, vi 0, vr t, vi 0, vi 2, vi 0, vi x0] [(.int (x0.toInt8.toInt32)), (.int 0), (.ref t)])) (fun _ k => ?_) ?_
    · refine XS.icmpYes X0.here hx rfl (pc0 := 20) (pc' := 26) rfl (hb hby d_jdk_52_21_20) rfl (flt g0).2.2.2 (by decide) (by decide) ?_
      refine XS.aloadN X0.here hx rfl (hb hby d_jdk_52_21_26) rfl rfl ?_
      refine XS.iloadN X0.here hx rfl (hb hby d_jdk_52_21_27) rfl ?_
      refine XS.iload X0.here hx rfl (hb hby d_jdk_52_21_28) rfl ?_
      show Steps p.tables e below (T0.setTop (mkF m 30 #[vr tc, vi 0, vr t, vi 0, vi 2, vi 0, vi x0] [(.int x0), (.int 0), (.ref t)])) _
      refine XS.i2b X0.here hx rfl (hb hby d_jdk_52_21_30) rfl ?_
      exact k
    obtain ⟨cl_t_2, Ar_t_2, q_t_2, S_t_2, N_t_2, H_t_2, G_t_2⟩ := V_t
    obtain ⟨T2, h2, X2, e2, W2, st2⟩ := stB X0 hx hZ e0 Ar_t_2 (j := (0 : Int32)) (inb_of S_t_2 ⟨by decide, by decide⟩) (g := (mkF m 31 #[vr tc, vi 0, vr t, vi 0, vi 2, vi 0, vi x0] [(.int (x0.toInt8.toInt32)), (.int 0), (.ref t)])) rfl rfl (hb hby d_jdk_52_21_31)
    have V_t_2 : Arv Z h2 t k .byte (2 : Int32) [(.int (nar .byte (x0.toInt8.toInt32))), (.int 0)] (.int 0) := Arv.set Ar_t_2 q_t_2 S_t_2 N_t_2 H_t_2 G_t_2 (fits_nar_byte _) W2 0 rfl (Nat.le_of_ble_eq_true rfl)
    refine OEnds.st st2 ?_
    replace V_tc := V_tc.other W2 ne_tc_t
    replace O0 : Ext Z.heap h2 := ext_wr O0 W2 ge_t
    replace N0 := Fr.snoc X2 N0 ge_t
    replace K0 : Keep h0 h2 [t] := K0.wr W2 (Or.inl (List.mem_of_getElem? (i := 0) rfl))
    refine OEnds.st (S' := T2.setTop (mkF m 3 #[vr tc, vi 1, vr t, vi 1, vi 2, vi 1, vi x0] [])) (fun _ k => ?_) ?_
    · refine XS.iinc X2.here hx rfl (hb hby d_jdk_52_21_32) rfl (l' := #[vr tc, vi 1, vr t, vi 0, vi 2, vi 0, vi x0]) rfl ?_
      refine XS.iinc X2.here hx rfl (hb hby d_jdk_52_21_35) rfl (l' := #[vr tc, vi 1, vr t, vi 1, vi 2, vi 0, vi x0]) rfl ?_
      refine XS.iinc X2.here hx rfl (hb hby d_jdk_52_21_38) rfl (l' := #[vr tc, vi 1, vr t, vi 1, vi 2, vi 1, vi x0]) rfl ?_
      refine XS.goto X2.here hx rfl (pc0 := 41) (pc' := 3) rfl (hb hby d_jdk_52_21_41) (by decide) (by decide) ?_
      exact k
    refine OEnds.st (S' := T2.setTop (mkF m 12 #[vr tc, vi 1, vr t, vi 1, vi 2, vi 1, vi x0] [(.int 1), (.ref tc)])) (fun _ k => ?_) ?_
    · refine XS.iload X2.here hx rfl (hb hby d_jdk_52_21_3) rfl ?_
      refine XS.iload X2.here hx rfl (hb hby d_jdk_52_21_5) rfl ?_
      refine XS.icmpNo X2.here hx rfl (hb hby d_jdk_52_21_7) rfl (tlt (by decide)).2.1 ?_
      refine XS.aloadN X2.here hx rfl (hb hby d_jdk_52_21_10) rfl rfl ?_
      show Steps p.tables e below (T2.setTop (mkF m 11 #[vr tc, vi 1, vr t, vi 1, vi 2, vi 1, vi x0] [(.ref tc)])) _
      refine XS.iloadN X2.here hx rfl (hb hby d_jdk_52_21_11) rfl ?_
      exact k
    obtain ⟨cl_tc_3, Ar_tc_3, q_tc_3, S_tc_3, N_tc_3, H_tc_3, G_tc_3⟩ := id V_tc
    refine OEnds.st (S' := T2.setTop (mkF m 13 #[vr tc, vi 1, vr t, vi 1, vi 2, vi 1, vi x0] [(.int x1)])) (X2.caload hx (j := (1 : Int32)) (v := (.int x1)) (by rw [e2]; exact Ar_tc_3.1) (State.isArrayOf_alike hZ.alike Ar_tc_3.2.1) Ar_tc_3.2.2 (inb_of S_tc_3 ⟨by decide, by decide⟩) (H_tc_3.at (inb_of S_tc_3 ⟨by decide, by decide⟩) rfl) (g := (mkF m 12 #[vr tc, vi 1, vr t, vi 1, vi 2, vi 1, vi x0] [(.int 1), (.ref tc)])) rfl rfl (hb hby d_jdk_52_21_12)) ?_
    refine OEnds.st (S' := T2.setTop (mkF m 20 #[vr tc, vi 1, vr t, vi 1, vi 2, vi 1, vi x1] [(.int 255), (.int x1)])) (fun _ k => ?_) ?_
    · refine XS.istore X2.here hx rfl (hb hby d_jdk_52_21_13) rfl (l' := #[vr tc, vi 1, vr t, vi 1, vi 2, vi 1, vi x1]) rfl ?_
      refine XS.iload X2.here hx rfl (hb hby d_jdk_52_21_15) rfl ?_
      refine XS.sipush X2.here hx rfl (hb hby d_jdk_52_21_17) ?_
      exact k
    rcases Classical.em ((255 : Int32) < x1) with g1 | g1
    · refine OEnds.st (S' := T2.setTop (mkF m 25 #[vr tc, vi 1, vr t, vi 1, vi 2, vi 1, vi x1] [(.int 1)])) (fun _ k => ?_) ?_
      · refine XS.icmpNo X2.here hx rfl (hb hby d_jdk_52_21_20) rfl (tlt g1).2.2.2 ?_
        refine XS.iload X2.here hx rfl (hb hby d_jdk_52_21_23) rfl ?_
        exact k
      exact OEnds.ret X2 hx hret hlk rfl (Or.inl ⟨rfl, by simp, _, rfl⟩) (hb hby d_jdk_52_21_25) (by decide) (by decide) (by rw [e2]; exact ⟨_, rfl, N0, K0, Or.inr (Or.inr (⟨rfl, g1⟩))⟩)
    · refine OEnds.st (S' := T2.setTop (mkF m 31 #[vr tc, vi 1, vr t, vi 1, vi 2, vi 1, vi x1] [(.int (x1.toInt8.toInt32)), (.int 1), (.ref t)])) (fun _ k => ?_) ?_
      · refine XS.icmpYes X2.here hx rfl (pc0 := 20) (pc' := 26) rfl (hb hby d_jdk_52_21_20) rfl (flt g1).2.2.2 (by decide) (by decide) ?_
        refine XS.aloadN X2.here hx rfl (hb hby d_jdk_52_21_26) rfl rfl ?_
        refine XS.iloadN X2.here hx rfl (hb hby d_jdk_52_21_27) rfl ?_
        refine XS.iload X2.here hx rfl (hb hby d_jdk_52_21_28) rfl ?_
        show Steps p.tables e below (T2.setTop (mkF m 30 #[vr tc, vi 1, vr t, vi 1, vi 2, vi 1, vi x1] [(.int x1), (.int 1), (.ref t)])) _
        refine XS.i2b X2.here hx rfl (hb hby d_jdk_52_21_30) rfl ?_
        exact k
      obtain ⟨cl_t_4, Ar_t_4, q_t_4, S_t_4, N_t_4, H_t_4, G_t_4⟩ := V_t_2
      obtain ⟨T4, h4, X4, e4, W4, st4⟩ := stB X2 hx hZ e2 Ar_t_4 (j := (1 : Int32)) (inb_of S_t_4 ⟨by decide, by decide⟩) (g := (mkF m 31 #[vr tc, vi 1, vr t, vi 1, vi 2, vi 1, vi x1] [(.int (x1.toInt8.toInt32)), (.int 1), (.ref t)])) rfl rfl (hb hby d_jdk_52_21_31)
      have V_t_4 : Arv Z h4 t k .byte (2 : Int32) [(.int (nar .byte (x0.toInt8.toInt32))), (.int (nar .byte (x1.toInt8.toInt32)))] (.int 0) := Arv.set Ar_t_4 q_t_4 S_t_4 N_t_4 H_t_4 G_t_4 (fits_nar_byte _) W4 1 rfl (Nat.le_of_ble_eq_true rfl)
      refine OEnds.st st4 ?_
      replace V_tc := V_tc.other W4 ne_tc_t
      replace O0 : Ext Z.heap h4 := ext_wr O0 W4 ge_t
      replace N0 := Fr.snoc X4 N0 ge_t
      replace K0 : Keep h0 h4 [t] := K0.wr W4 (Or.inl (List.mem_of_getElem? (i := 0) rfl))
      refine OEnds.st (S' := T4.setTop (mkF m 3 #[vr tc, vi 2, vr t, vi 2, vi 2, vi 2, vi x1] [])) (fun _ k => ?_) ?_
      · refine XS.iinc X4.here hx rfl (hb hby d_jdk_52_21_32) rfl (l' := #[vr tc, vi 2, vr t, vi 1, vi 2, vi 1, vi x1]) rfl ?_
        refine XS.iinc X4.here hx rfl (hb hby d_jdk_52_21_35) rfl (l' := #[vr tc, vi 2, vr t, vi 2, vi 2, vi 1, vi x1]) rfl ?_
        refine XS.iinc X4.here hx rfl (hb hby d_jdk_52_21_38) rfl (l' := #[vr tc, vi 2, vr t, vi 2, vi 2, vi 2, vi x1]) rfl ?_
        refine XS.goto X4.here hx rfl (pc0 := 41) (pc' := 3) rfl (hb hby d_jdk_52_21_41) (by decide) (by decide) ?_
        exact k
      refine OEnds.st (S' := T4.setTop (mkF m 46 #[vr tc, vi 2, vr t, vi 2, vi 2, vi 2, vi x1] [(.int 2)])) (fun _ k => ?_) ?_
      · refine XS.iload X4.here hx rfl (hb hby d_jdk_52_21_3) rfl ?_
        refine XS.iload X4.here hx rfl (hb hby d_jdk_52_21_5) rfl ?_
        refine XS.icmpYes X4.here hx rfl (pc0 := 7) (pc' := 44) rfl (hb hby d_jdk_52_21_7) rfl (flt (by decide)).2.1 (by decide) (by decide) ?_
        refine XS.iload X4.here hx rfl (hb hby d_jdk_52_21_44) rfl ?_
        exact k
      simp only [nar_b8] at V_t_4
      exact OEnds.ret X4 hx hret hlk rfl (Or.inl ⟨rfl, by simp, _, rfl⟩) (hb hby d_jdk_52_21_46) (by decide) (by decide) (by rw [e4]; exact ⟨_, rfl, N0, K0, Or.inl ⟨rfl, g0, g1, V_t_4⟩⟩)
-- java/lang/StringUTF16.newBytesLength:(I)I
def Q_nbLen2 (Z : State)  (h0 : Heap) (v : Option Value) (h : Heap) (L : List Loc) : Prop := v = some (.int 4) ∧ Fr Z.heap.size L ∧ h = h0
theorem ef_nbLen2 (m : MethodId)  : entryFrame m #[(.int 2)] 1 = mkF m 0 #[vi 2] [] := by first | (simp [entryFrame, mkF, argsToLocals, Value.category, vi, vj, vr]; done) | rfl
set_option maxRecDepth 65536 in
set_option maxHeartbeats 40000000 in
theorem rm_nbLen2 (l : Launch) {Z : State} {a0 : Array Value} (hD : Wd Z a0)  {h0 : Heap} (O0 : Ext Z.heap h0) :
    Con l Z (⟨"java/lang/StringUTF16", "newBytesLength", "(I)I"⟩ : MethodName) jdk_52_method_3_code 1 (some .int) [] ({ frames := 0, cells := 0, slots := 0, locals := 0 } : Room) #[(.int 2)] h0 (Q_nbLen2 Z  h0) := by
  refine Con.walk (plainFor_of_name pn_4) ?_
  intro p e s m below meth c T0 X0 hx hZ hby hml hown hnm hret hlk e0
  obtain ⟨hw, ⟨cz, S_CS, hcz⟩, ⟨sf, S_SF, hsf⟩, S_AD, S_HI, S_LO⟩ := id hD
  have N0 := Fr.nil Z.heap.size
  refine OEnds.cast (ef_nbLen2 m ) ?_
  refine OEnds.st (S' := T0.setTop (mkF m 58 #[vi 2] [(.int 4)])) (fun _ k => ?_) ?_
  · refine XS.iloadN X0.here hx rfl (hb hby d_jdk_52_3_0) rfl ?_
    refine XS.ifYes X0.here hx rfl (pc0 := 1) (pc' := 12) rfl (hb hby d_jdk_52_3_1) rfl ((if0 _ _).trans (flt (by decide)).2.1) (by decide) (by decide) ?_
    refine XS.iloadN X0.here hx rfl (hb hby d_jdk_52_3_12) rfl ?_
    refine X0.ldcInt hx hown (mvT hZ (wq hw 94 rfl)) (g := (mkF m 13 #[vi 2] [(.int 2)])) rfl (hb hby d_jdk_52_3_13) _ ?_
    show Steps p.tables e below (T0.setTop (mkF m 15 #[vi 2] [(.int 1073741823), (.int 2)])) _
    refine XS.icmpYes X0.here hx rfl (pc0 := 15) (pc' := 55) rfl (hb hby d_jdk_52_3_15) rfl (tlt (by decide)).1 (by decide) (by decide) ?_
    refine XS.iloadN X0.here hx rfl (hb hby d_jdk_52_3_55) rfl ?_
    refine XS.iconst X0.here hx rfl (hb hby d_jdk_52_3_56) ?_
    refine XS.ishl X0.here hx rfl (hb hby d_jdk_52_3_57) rfl ?_
    exact k
  exact OEnds.ret X0 hx hret hlk rfl (Or.inl ⟨rfl, by simp, _, rfl⟩) (hb hby d_jdk_52_3_58) (by decide) (by decide) (by rw [e0]; exact ⟨rfl, N0, rfl⟩)
-- java/lang/StringUTF16.newBytesFor:(I)[B
def Q_nbFor2 (Z : State)  (h0 : Heap) (v : Option Value) (h : Heap) (L : List Loc) : Prop := ∃ (t : Addr) (k : ClassId), v = some (.ref t) ∧ Fr Z.heap.size L ∧ Keep h0 h [] ∧ h0.size ≤ t ∧ Arv Z h t k .byte (4 : Int32) [(.int 0), (.int 0), (.int 0), (.int 0)] (.int 0)
theorem ef_nbFor2 (m : MethodId)  : entryFrame m #[(.int 2)] 1 = mkF m 0 #[vi 2] [] := by first | (simp [entryFrame, mkF, argsToLocals, Value.category, vi, vj, vr]; done) | rfl
set_option maxRecDepth 65536 in
set_option maxHeartbeats 40000000 in
theorem rm_nbFor2 (l : Launch) {Z : State} {a0 : Array Value} (hD : Wd Z a0)  {h0 : Heap} (O0 : Ext Z.heap h0) :
    Con l Z (⟨"java/lang/StringUTF16", "newBytesFor", "(I)[B"⟩ : MethodName) jdk_52_method_2_code 1 (some (.array .byte)) [] ({ frames := 1, cells := 1, slots := 4, locals := 12 } : Room) #[(.int 2)] h0 (Q_nbFor2 Z  h0) := by
  refine Con.walk (plainFor_of_name pn_4) ?_
  intro p e s m below meth c T0 X0 hx hZ hby hml hown hnm hret hlk e0
  obtain ⟨hw, ⟨cz, S_CS, hcz⟩, ⟨sf, S_SF, hsf⟩, S_AD, S_HI, S_LO⟩ := id hD
  have N0 := Fr.nil Z.heap.size
  have K0 : Keep h0 h0 [] := Keep.refl _ _
  refine OEnds.cast (ef_nbFor2 m ) ?_
  refine OEnds.st (S' := T0.setTop (mkF m 1 #[vi 2] [(.int 2)])) (fun _ k => ?_) ?_
  · refine XS.iloadN X0.here hx rfl (hb hby d_jdk_52_2_0) rfl ?_
    exact k
  obtain ⟨_, T1, h1, L1, X1, e1, hQ1, st1⟩ := callC X0 hx hZ hown (wq hw 91 rfl) (wq hw 92 rfl) (wq hw 22 rfl) (wq hw 93 rfl) (by decide) (kc := 0) (ks := 0) (Con.sb (W := 0) (rm_nbLen2 l hD  O0) hZ (wq hw 93 rfl) (wq hw 22 rfl) (by decide) (by decide)) e0 (g := (mkF m 1 #[vi 2] [(.int 2)])) rfl (by rw [hml]; rfl) (argsL := [(.int 2)]) (rest := []) (lenOf pd_1 rfl) rfl (by show 2 * 0 + _ ≤ _; exact Nat.le_of_eq rfl) (hb hby d_jdk_52_2_1) (by decide) (by decide)
  obtain ⟨rfl, Nq1, Hq1⟩ := hQ1
  refine OEnds.st st1 ?_
  replace N0 := Fr.app N0 Nq1
  replace e1 := e1.trans Hq1
  obtain ⟨T2, h2, k2, X2, e2, E2, A2, st2⟩ := newP X1 hx hZ (wq hw 24 rfl) e1 (g := (mkF m 4 #[vi 2] [(.int 4)])) rfl (hb hby d_jdk_52_2_4) rfl (by decide) (cap := 4) (by decide) (by decide) (by decide) (by decide)
  obtain ⟨b2, g2⟩ : ∃ z, z = h0.size := ⟨_, rfl⟩
  rw [← g2] at A2 st2
  refine OEnds.st st2 ?_
  have ge_b2 : Z.heap.size ≤ b2 := Nat.le_trans O0.1 (Nat.le_of_eq g2.symm)
  have sz_b2 : h0.size ≤ b2 := Nat.le_trans K0.1 (Nat.le_of_eq g2.symm)
  replace O0 : Ext Z.heap h2 := ext_trans O0 E2
  replace K0 : Keep h0 h2 [] := K0.ext E2
  have V_b2 : Arv Z h2 b2 k2 .byte (4 : Int32) [(.int 0), (.int 0), (.int 0), (.int 0)] (.int 0) := (Arv.new A2 (by decide)).pad (pad_rep [] (.int 0) 4)
  exact OEnds.ret X2 hx hret hlk rfl (Or.inr (Or.inr (Or.inr (Or.inr ⟨rfl, rfl, rfl⟩)))) (hb hby d_jdk_52_2_6) (by decide) (by decide) (by rw [e2]; exact ⟨b2, _, rfl, N0, K0, sz_b2, V_b2⟩)
-- java/lang/StringUTF16.putChar:([BII)V
def Q_putC2_0 (Z : State) (t : Addr) (x0 : Int32) (k : ClassId)  (h0 : Heap) (v : Option Value) (h : Heap) (L : List Loc) : Prop := v = none ∧ Fr Z.heap.size L ∧ Keep h0 h [t] ∧ Arv Z h t k .byte (4 : Int32) [(.int (x0.toInt8.toInt32)), (.int ((x0 >>> ((8 : Int32) &&& 31)).toInt8.toInt32)), (.int 0), (.int 0)] (.int 0)
theorem ef_putC2_0 (m : MethodId) (t : Addr) (x0 : Int32) : entryFrame m #[(.ref t), (.int 0), (.int x0)] 3 = mkF m 0 #[vr t, vi 0, vi x0] [] := by first | (simp [entryFrame, mkF, argsToLocals, Value.category, vi, vj, vr]; done) | rfl
set_option maxRecDepth 65536 in
set_option maxHeartbeats 40000000 in
theorem rm_putC2_0 (l : Launch) {Z : State} {a0 : Array Value} (hD : Wd Z a0) (t : Addr) (x0 : Int32) (k : ClassId)  {h0 : Heap} (O0 : Ext Z.heap h0) (V_t : Arv Z h0 t k .byte (4 : Int32) [(.int 0), (.int 0), (.int 0), (.int 0)] (.int 0)) (ge_t : Z.heap.size ≤ t) :
    Con l Z (⟨"java/lang/StringUTF16", "putChar", "([BII)V"⟩ : MethodName) jdk_52_method_4_code 3 none [] ({ frames := 0, cells := 0, slots := 0, locals := 0 } : Room) #[(.ref t), (.int 0), (.int x0)] h0 (Q_putC2_0 Z t x0 k h0) := by
  refine Con.walk (plainFor_of_name pn_4) ?_
  intro p e s m below meth c T0 X0 hx hZ hby hml hown hnm hret hlk e0
  obtain ⟨hw, ⟨cz, S_CS, hcz⟩, ⟨sf, S_SF, hsf⟩, S_AD, S_HI, S_LO⟩ := id hD
  have N0 := Fr.nil Z.heap.size
  have K0 : Keep h0 h0 [t] := Keep.refl _ _
  refine OEnds.cast (ef_putC2_0 m t x0) ?_
  obtain ⟨T1, X1, e1, st1⟩ := getS2 X0 hx hZ hown (host := "") (Or.inl (wq hw 98 rfl)) Via.refl e0 (S_AD.ext O0) (g := (mkF m 0 #[vr t, vi 0, vi x0] [])) rfl (hb hby d_jdk_52_4_0)
  refine OEnds.st st1 ?_
  refine OEnds.st (S' := T1.setTop (mkF m 38 #[vr t, vi 1, vi x0] [(.int x0), (.int 0), (.ref t)])) (fun _ k => ?_) ?_
  · refine XS.ifYes X1.here hx rfl (pc0 := 3) (pc' := 28) rfl (hb hby d_jdk_52_4_3) rfl ((if0 _ _).trans (feq (by decide)).2) (by decide) (by decide) ?_
    refine XS.iloadN X1.here hx rfl (hb hby d_jdk_52_4_28) rfl ?_
    refine XS.iconst X1.here hx rfl (hb hby d_jdk_52_4_29) ?_
    refine XS.ishl X1.here hx rfl (hb hby d_jdk_52_4_30) rfl ?_
    show Steps p.tables e below (T1.setTop (mkF m 31 #[vr t, vi 0, vi x0] [(.int 0)])) _
    refine XS.istoreN X1.here hx rfl (hb hby d_jdk_52_4_31) rfl (l' := #[vr t, vi 0, vi x0]) rfl ?_
    refine XS.aloadN X1.here hx rfl (hb hby d_jdk_52_4_32) rfl rfl ?_
    refine XS.iloadN X1.here hx rfl (hb hby d_jdk_52_4_33) rfl ?_
    refine XS.iinc X1.here hx rfl (hb hby d_jdk_52_4_34) rfl (l' := #[vr t, vi 1, vi x0]) rfl ?_
    show Steps p.tables e below (T1.setTop (mkF m 37 #[vr t, vi 1, vi x0] [(.int 0), (.ref t)])) _
    refine XS.iloadN X1.here hx rfl (hb hby d_jdk_52_4_37) rfl ?_
    exact k
  obtain ⟨T2, X2, e2, st2⟩ := getS2 X1 hx hZ hown (host := "") (Or.inl (wq hw 99 rfl)) Via.refl e1 (S_HI.ext O0) (g := (mkF m 38 #[vr t, vi 1, vi x0] [(.int x0), (.int 0), (.ref t)])) rfl (hb hby d_jdk_52_4_38)
  refine OEnds.st st2 ?_
  refine OEnds.st (S' := T2.setTop (mkF m 43 #[vr t, vi 1, vi x0] [(.int (x0.toInt8.toInt32)), (.int 0), (.ref t)])) (fun _ k => ?_) ?_
  · refine XS.ishr X2.here hx rfl (hb hby d_jdk_52_4_41) rfl ?_
    rw [shr0 x0]
    refine XS.i2b X2.here hx rfl (hb hby d_jdk_52_4_42) rfl ?_
    exact k
  obtain ⟨cl_t_3, Ar_t_3, q_t_3, S_t_3, N_t_3, H_t_3, G_t_3⟩ := V_t
  obtain ⟨T3, h3, X3, e3, W3, st3⟩ := stB X2 hx hZ e2 Ar_t_3 (j := (0 : Int32)) (inb_of S_t_3 ⟨by decide, by decide⟩) (g := (mkF m 43 #[vr t, vi 1, vi x0] [(.int (x0.toInt8.toInt32)), (.int 0), (.ref t)])) rfl rfl (hb hby d_jdk_52_4_43)
  have V_t_3 : Arv Z h3 t k .byte (4 : Int32) [(.int (nar .byte (x0.toInt8.toInt32))), (.int 0), (.int 0), (.int 0)] (.int 0) := Arv.set Ar_t_3 q_t_3 S_t_3 N_t_3 H_t_3 G_t_3 (fits_nar_byte _) W3 0 rfl (Nat.le_of_ble_eq_true rfl)
  refine OEnds.st st3 ?_
  replace O0 : Ext Z.heap h3 := ext_wr O0 W3 ge_t
  replace N0 := Fr.snoc X3 N0 ge_t
  replace K0 : Keep h0 h3 [t] := K0.wr W3 (Or.inl (List.mem_of_getElem? (i := 0) rfl))
  refine OEnds.st (S' := T3.setTop (mkF m 47 #[vr t, vi 1, vi x0] [(.int x0), (.int 1), (.ref t)])) (fun _ k => ?_) ?_
  · refine XS.aloadN X3.here hx rfl (hb hby d_jdk_52_4_44) rfl rfl ?_
    refine XS.iloadN X3.here hx rfl (hb hby d_jdk_52_4_45) rfl ?_
    refine XS.iloadN X3.here hx rfl (hb hby d_jdk_52_4_46) rfl ?_
    exact k
  obtain ⟨T4, X4, e4, st4⟩ := getS2 X3 hx hZ hown (host := "") (Or.inl (wq hw 100 rfl)) Via.refl e3 (S_LO.ext O0) (g := (mkF m 47 #[vr t, vi 1, vi x0] [(.int x0), (.int 1), (.ref t)])) rfl (hb hby d_jdk_52_4_47)
  refine OEnds.st st4 ?_
  refine OEnds.st (S' := T4.setTop (mkF m 52 #[vr t, vi 1, vi x0] [(.int ((x0 >>> ((8 : Int32) &&& 31)).toInt8.toInt32)), (.int 1), (.ref t)])) (fun _ k => ?_) ?_
  · refine XS.ishr X4.here hx rfl (hb hby d_jdk_52_4_50) rfl ?_
    refine XS.i2b X4.here hx rfl (hb hby d_jdk_52_4_51) rfl ?_
    exact k
  obtain ⟨cl_t_5, Ar_t_5, q_t_5, S_t_5, N_t_5, H_t_5, G_t_5⟩ := V_t_3
  obtain ⟨T5, h5, X5, e5, W5, st5⟩ := stB X4 hx hZ e4 Ar_t_5 (j := (1 : Int32)) (inb_of S_t_5 ⟨by decide, by decide⟩) (g := (mkF m 52 #[vr t, vi 1, vi x0] [(.int ((x0 >>> ((8 : Int32) &&& 31)).toInt8.toInt32)), (.int 1), (.ref t)])) rfl rfl (hb hby d_jdk_52_4_52)
  have V_t_5 : Arv Z h5 t k .byte (4 : Int32) [(.int (nar .byte (x0.toInt8.toInt32))), (.int (nar .byte ((x0 >>> ((8 : Int32) &&& 31)).toInt8.toInt32))), (.int 0), (.int 0)] (.int 0) := Arv.set Ar_t_5 q_t_5 S_t_5 N_t_5 H_t_5 G_t_5 (fits_nar_byte _) W5 1 rfl (Nat.le_of_ble_eq_true rfl)
  refine OEnds.st st5 ?_
  replace O0 : Ext Z.heap h5 := ext_wr O0 W5 ge_t
  replace N0 := Fr.snoc X5 N0 ge_t
  replace K0 : Keep h0 h5 [t] := K0.wr W5 (Or.inl (List.mem_of_getElem? (i := 0) rfl))
  simp only [nar_b8] at V_t_5
  exact OEnds.retV X5 hx hret hlk (hb hby d_jdk_52_4_53) (by decide) (by decide) (by rw [e5]; exact ⟨rfl, N0, K0, V_t_5⟩)
-- java/lang/StringUTF16.getChar:([BI)C
def Q_getC2_0 (Z : State) (t : Addr) (k : ClassId) (x0 x1 : Int32) (h0 : Heap) (v : Option Value) (h : Heap) (L : List Loc) : Prop := v = some (.int x0) ∧ Fr Z.heap.size L ∧ h = h0
theorem ef_getC2_0 (m : MethodId) (t : Addr) : entryFrame m #[(.ref t), (.int 0)] 2 = mkF m 0 #[vr t, vi 0] [] := by first | (simp [entryFrame, mkF, argsToLocals, Value.category, vi, vj, vr]; done) | rfl
set_option maxRecDepth 65536 in
set_option maxHeartbeats 40000000 in
theorem rm_getC2_0 (l : Launch) {Z : State} {a0 : Array Value} (hD : Wd Z a0) (t : Addr) (k : ClassId) (x0 x1 : Int32) {h0 : Heap} (O0 : Ext Z.heap h0) (V_t : Arv Z h0 t k .byte (4 : Int32) [(.int (x0.toInt8.toInt32)), (.int ((x0 >>> ((8 : Int32) &&& 31)).toInt8.toInt32)), (.int (x1.toInt8.toInt32)), (.int ((x1 >>> ((8 : Int32) &&& 31)).toInt8.toInt32))] (.int 0)) (hx0 : ¬ x0 < 0 ∧ ¬ (65535 : Int32) < x0) :
    Con l Z (⟨"java/lang/StringUTF16", "getChar", "([BI)C"⟩ : MethodName) jdk_52_method_5_code 2 (some .char) [] ({ frames := 0, cells := 0, slots := 0, locals := 0 } : Room) #[(.ref t), (.int 0)] h0 (Q_getC2_0 Z t k x0 x1 h0) := by
  refine Con.walk (plainFor_of_name pn_4) ?_
  intro p e s m below meth c T0 X0 hx hZ hby hml hown hnm hret hlk e0
  obtain ⟨hw, ⟨cz, S_CS, hcz⟩, ⟨sf, S_SF, hsf⟩, S_AD, S_HI, S_LO⟩ := id hD
  have N0 := Fr.nil Z.heap.size
  refine OEnds.cast (ef_getC2_0 m t) ?_
  obtain ⟨T1, X1, e1, st1⟩ := getS2 X0 hx hZ hown (host := "") (Or.inl (wq hw 98 rfl)) Via.refl e0 (S_AD.ext O0) (g := (mkF m 0 #[vr t, vi 0] [])) rfl (hb hby d_jdk_52_5_0)
  refine OEnds.st st1 ?_
  refine OEnds.st (S' := T1.setTop (mkF m 37 #[vr t, vi 1] [(.int 0), (.ref t)])) (fun _ k => ?_) ?_
  · refine XS.ifYes X1.here hx rfl (pc0 := 3) (pc' := 28) rfl (hb hby d_jdk_52_5_3) rfl ((if0 _ _).trans (feq (by decide)).2) (by decide) (by decide) ?_
    refine XS.iloadN X1.here hx rfl (hb hby d_jdk_52_5_28) rfl ?_
    refine XS.iconst X1.here hx rfl (hb hby d_jdk_52_5_29) ?_
    refine XS.ishl X1.here hx rfl (hb hby d_jdk_52_5_30) rfl ?_
    show Steps p.tables e below (T1.setTop (mkF m 31 #[vr t, vi 0] [(.int 0)])) _
    refine XS.istoreN X1.here hx rfl (hb hby d_jdk_52_5_31) rfl (l' := #[vr t, vi 0]) rfl ?_
    refine XS.aloadN X1.here hx rfl (hb hby d_jdk_52_5_32) rfl rfl ?_
    refine XS.iloadN X1.here hx rfl (hb hby d_jdk_52_5_33) rfl ?_
    refine XS.iinc X1.here hx rfl (hb hby d_jdk_52_5_34) rfl (l' := #[vr t, vi 1]) rfl ?_
    exact k
  obtain ⟨cl_t_2, Ar_t_2, q_t_2, S_t_2, N_t_2, H_t_2, G_t_2⟩ := id V_t
  refine OEnds.st (S' := T1.setTop (mkF m 38 #[vr t, vi 1] [(.int (x0.toInt8.toInt32))])) (X1.baloadBytes hx (j := (0 : Int32)) (v := (.int (x0.toInt8.toInt32))) (by rw [e1]; exact Ar_t_2.1) (State.isArrayOf_alike hZ.alike Ar_t_2.2.1) Ar_t_2.2.2 (inb_of S_t_2 ⟨by decide, by decide⟩) (H_t_2.at (inb_of S_t_2 ⟨by decide, by decide⟩) rfl) (g := (mkF m 37 #[vr t, vi 1] [(.int 0), (.ref t)])) rfl rfl (hb hby d_jdk_52_5_37)) ?_
  refine OEnds.st (S' := T1.setTop (mkF m 42 #[vr t, vi 1] [(.int ((x0.toInt8.toInt32) &&& (255 : Int32)))])) (fun _ k => ?_) ?_
  · refine XS.sipush X1.here hx rfl (hb hby d_jdk_52_5_38) ?_
    refine XS.iand X1.here hx rfl (hb hby d_jdk_52_5_41) rfl ?_
    exact k
  obtain ⟨T3, X3, e3, st3⟩ := getS2 X1 hx hZ hown (host := "") (Or.inl (wq hw 99 rfl)) Via.refl e1 (S_HI.ext O0) (g := (mkF m 42 #[vr t, vi 1] [(.int ((x0.toInt8.toInt32) &&& (255 : Int32)))])) rfl (hb hby d_jdk_52_5_42)
  refine OEnds.st st3 ?_
  refine OEnds.st (S' := T3.setTop (mkF m 48 #[vr t, vi 1] [(.int 1), (.ref t), (.int ((x0.toInt8.toInt32) &&& (255 : Int32)))])) (fun _ k => ?_) ?_
  · refine XS.ishl X3.here hx rfl (hb hby d_jdk_52_5_45) rfl ?_
    rw [shl0 ((x0.toInt8.toInt32) &&& (255 : Int32))]
    refine XS.aloadN X3.here hx rfl (hb hby d_jdk_52_5_46) rfl rfl ?_
    refine XS.iloadN X3.here hx rfl (hb hby d_jdk_52_5_47) rfl ?_
    exact k
  obtain ⟨cl_t_4, Ar_t_4, q_t_4, S_t_4, N_t_4, H_t_4, G_t_4⟩ := id V_t
  refine OEnds.st (S' := T3.setTop (mkF m 49 #[vr t, vi 1] [(.int ((x0 >>> ((8 : Int32) &&& 31)).toInt8.toInt32)), (.int ((x0.toInt8.toInt32) &&& (255 : Int32)))])) (X3.baloadBytes hx (j := (1 : Int32)) (v := (.int ((x0 >>> ((8 : Int32) &&& 31)).toInt8.toInt32))) (by rw [e3]; exact Ar_t_4.1) (State.isArrayOf_alike hZ.alike Ar_t_4.2.1) Ar_t_4.2.2 (inb_of S_t_4 ⟨by decide, by decide⟩) (H_t_4.at (inb_of S_t_4 ⟨by decide, by decide⟩) rfl) (g := (mkF m 48 #[vr t, vi 1] [(.int 1), (.ref t), (.int ((x0.toInt8.toInt32) &&& (255 : Int32)))])) rfl rfl (hb hby d_jdk_52_5_48)) ?_
  refine OEnds.st (S' := T3.setTop (mkF m 53 #[vr t, vi 1] [(.int (((x0 >>> ((8 : Int32) &&& 31)).toInt8.toInt32) &&& (255 : Int32))), (.int ((x0.toInt8.toInt32) &&& (255 : Int32)))])) (fun _ k => ?_) ?_
  · refine XS.sipush X3.here hx rfl (hb hby d_jdk_52_5_49) ?_
    refine XS.iand X3.here hx rfl (hb hby d_jdk_52_5_52) rfl ?_
    exact k
  obtain ⟨T5, X5, e5, st5⟩ := getS2 X3 hx hZ hown (host := "") (Or.inl (wq hw 100 rfl)) Via.refl e3 (S_LO.ext O0) (g := (mkF m 53 #[vr t, vi 1] [(.int (((x0 >>> ((8 : Int32) &&& 31)).toInt8.toInt32) &&& (255 : Int32))), (.int ((x0.toInt8.toInt32) &&& (255 : Int32)))])) rfl (hb hby d_jdk_52_5_53)
  refine OEnds.st st5 ?_
  refine OEnds.st (S' := T5.setTop (mkF m 59 #[vr t, vi 1] [(.int ((((x0.toInt8.toInt32) &&& (255 : Int32)) ||| ((((x0 >>> ((8 : Int32) &&& 31)).toInt8.toInt32) &&& (255 : Int32)) <<< ((8 : Int32) &&& 31))).toUInt32.toUInt16.toUInt32.toInt32))])) (fun _ k => ?_) ?_
  · refine XS.ishl X5.here hx rfl (hb hby d_jdk_52_5_56) rfl ?_
    refine XS.ior X5.here hx rfl (hb hby d_jdk_52_5_57) rfl ?_
    refine XS.i2c X5.here hx rfl (hb hby d_jdk_52_5_58) rfl ?_
    exact k
  rw [gch hx0]
  exact OEnds.ret X5 hx hret hlk (StrChars.narrow_ch hx0.1 hx0.2) (Or.inl ⟨rfl, by simp, _, rfl⟩) (hb hby d_jdk_52_5_59) (by decide) (by decide) (by rw [e5]; exact ⟨rfl, N0, rfl⟩)
-- java/lang/StringUTF16.putChar:([BII)V
def Q_putC2_1 (Z : State) (t : Addr) (x1 : Int32) (k : ClassId) (x0 : Int32) (h0 : Heap) (v : Option Value) (h : Heap) (L : List Loc) : Prop := v = none ∧ Fr Z.heap.size L ∧ Keep h0 h [t] ∧ Arv Z h t k .byte (4 : Int32) [(.int (x0.toInt8.toInt32)), (.int ((x0 >>> ((8 : Int32) &&& 31)).toInt8.toInt32)), (.int (x1.toInt8.toInt32)), (.int ((x1 >>> ((8 : Int32) &&& 31)).toInt8.toInt32))] (.int 0)
theorem ef_putC2_1 (m : MethodId) (t : Addr) (x1 : Int32) : entryFrame m #[(.ref t), (.int 1), (.int x1)] 3 = mkF m 0 #[vr t, vi 1, vi x1] [] := by first | (simp [entryFrame, mkF, argsToLocals, Value.category, vi, vj, vr]; done) | rfl
set_option maxRecDepth 65536 in
set_option maxHeartbeats 40000000 in
theorem rm_putC2_1 (l : Launch) {Z : State} {a0 : Array Value} (hD : Wd Z a0) (t : Addr) (x1 : Int32) (k : ClassId) (x0 : Int32) {h0 : Heap} (O0 : Ext Z.heap h0) (V_t : Arv Z h0 t k .byte (4 : Int32) [(.int (x0.toInt8.toInt32)), (.int ((x0 >>> ((8 : Int32) &&& 31)).toInt8.toInt32)), (.int 0), (.int 0)] (.int 0)) (ge_t : Z.heap.size ≤ t) :
    Con l Z (⟨"java/lang/StringUTF16", "putChar", "([BII)V"⟩ : MethodName) jdk_52_method_4_code 3 none [] ({ frames := 0, cells := 0, slots := 0, locals := 0 } : Room) #[(.ref t), (.int 1), (.int x1)] h0 (Q_putC2_1 Z t x1 k x0 h0) := by
  refine Con.walk (plainFor_of_name pn_4) ?_
  intro p e s m below meth c T0 X0 hx hZ hby hml hown hnm hret hlk e0
  obtain ⟨hw, ⟨cz, S_CS, hcz⟩, ⟨sf, S_SF, hsf⟩, S_AD, S_HI, S_LO⟩ := id hD
  have N0 := Fr.nil Z.heap.size
  have K0 : Keep h0 h0 [t] := Keep.refl _ _
  refine OEnds.cast (ef_putC2_1 m t x1) ?_
  obtain ⟨T1, X1, e1, st1⟩ := getS2 X0 hx hZ hown (host := "") (Or.inl (wq hw 98 rfl)) Via.refl e0 (S_AD.ext O0) (g := (mkF m 0 #[vr t, vi 1, vi x1] [])) rfl (hb hby d_jdk_52_4_0)
  refine OEnds.st st1 ?_
  refine OEnds.st (S' := T1.setTop (mkF m 38 #[vr t, vi 3, vi x1] [(.int x1), (.int 2), (.ref t)])) (fun _ k => ?_) ?_
  · refine XS.ifYes X1.here hx rfl (pc0 := 3) (pc' := 28) rfl (hb hby d_jdk_52_4_3) rfl ((if0 _ _).trans (feq (by decide)).2) (by decide) (by decide) ?_
    refine XS.iloadN X1.here hx rfl (hb hby d_jdk_52_4_28) rfl ?_
    refine XS.iconst X1.here hx rfl (hb hby d_jdk_52_4_29) ?_
    refine XS.ishl X1.here hx rfl (hb hby d_jdk_52_4_30) rfl ?_
    show Steps p.tables e below (T1.setTop (mkF m 31 #[vr t, vi 1, vi x1] [(.int 2)])) _
    refine XS.istoreN X1.here hx rfl (hb hby d_jdk_52_4_31) rfl (l' := #[vr t, vi 2, vi x1]) rfl ?_
    refine XS.aloadN X1.here hx rfl (hb hby d_jdk_52_4_32) rfl rfl ?_
    refine XS.iloadN X1.here hx rfl (hb hby d_jdk_52_4_33) rfl ?_
    refine XS.iinc X1.here hx rfl (hb hby d_jdk_52_4_34) rfl (l' := #[vr t, vi 3, vi x1]) rfl ?_
    show Steps p.tables e below (T1.setTop (mkF m 37 #[vr t, vi 3, vi x1] [(.int 2), (.ref t)])) _
    refine XS.iloadN X1.here hx rfl (hb hby d_jdk_52_4_37) rfl ?_
    exact k
  obtain ⟨T2, X2, e2, st2⟩ := getS2 X1 hx hZ hown (host := "") (Or.inl (wq hw 99 rfl)) Via.refl e1 (S_HI.ext O0) (g := (mkF m 38 #[vr t, vi 3, vi x1] [(.int x1), (.int 2), (.ref t)])) rfl (hb hby d_jdk_52_4_38)
  refine OEnds.st st2 ?_
  refine OEnds.st (S' := T2.setTop (mkF m 43 #[vr t, vi 3, vi x1] [(.int (x1.toInt8.toInt32)), (.int 2), (.ref t)])) (fun _ k => ?_) ?_
  · refine XS.ishr X2.here hx rfl (hb hby d_jdk_52_4_41) rfl ?_
    rw [shr0 x1]
    refine XS.i2b X2.here hx rfl (hb hby d_jdk_52_4_42) rfl ?_
    exact k
  obtain ⟨cl_t_3, Ar_t_3, q_t_3, S_t_3, N_t_3, H_t_3, G_t_3⟩ := V_t
  obtain ⟨T3, h3, X3, e3, W3, st3⟩ := stB X2 hx hZ e2 Ar_t_3 (j := (2 : Int32)) (inb_of S_t_3 ⟨by decide, by decide⟩) (g := (mkF m 43 #[vr t, vi 3, vi x1] [(.int (x1.toInt8.toInt32)), (.int 2), (.ref t)])) rfl rfl (hb hby d_jdk_52_4_43)
  have V_t_3 : Arv Z h3 t k .byte (4 : Int32) [(.int (x0.toInt8.toInt32)), (.int ((x0 >>> ((8 : Int32) &&& 31)).toInt8.toInt32)), (.int (nar .byte (x1.toInt8.toInt32))), (.int 0)] (.int 0) := Arv.set Ar_t_3 q_t_3 S_t_3 N_t_3 H_t_3 G_t_3 (fits_nar_byte _) W3 2 rfl (Nat.le_of_ble_eq_true rfl)
  refine OEnds.st st3 ?_
  replace O0 : Ext Z.heap h3 := ext_wr O0 W3 ge_t
  replace N0 := Fr.snoc X3 N0 ge_t
  replace K0 : Keep h0 h3 [t] := K0.wr W3 (Or.inl (List.mem_of_getElem? (i := 0) rfl))
  refine OEnds.st (S' := T3.setTop (mkF m 47 #[vr t, vi 3, vi x1] [(.int x1), (.int 3), (.ref t)])) (fun _ k => ?_) ?_
  · refine XS.aloadN X3.here hx rfl (hb hby d_jdk_52_4_44) rfl rfl ?_
    refine XS.iloadN X3.here hx rfl (hb hby d_jdk_52_4_45) rfl ?_
    refine XS.iloadN X3.here hx rfl (hb hby d_jdk_52_4_46) rfl ?_
    exact k
  obtain ⟨T4, X4, e4, st4⟩ := getS2 X3 hx hZ hown (host := "") (Or.inl (wq hw 100 rfl)) Via.refl e3 (S_LO.ext O0) (g := (mkF m 47 #[vr t, vi 3, vi x1] [(.int x1), (.int 3), (.ref t)])) rfl (hb hby d_jdk_52_4_47)
  refine OEnds.st st4 ?_
  refine OEnds.st (S' := T4.setTop (mkF m 52 #[vr t, vi 3, vi x1] [(.int ((x1 >>> ((8 : Int32) &&& 31)).toInt8.toInt32)), (.int 3), (.ref t)])) (fun _ k => ?_) ?_
  · refine XS.ishr X4.here hx rfl (hb hby d_jdk_52_4_50) rfl ?_
    refine XS.i2b X4.here hx rfl (hb hby d_jdk_52_4_51) rfl ?_
    exact k
  obtain ⟨cl_t_5, Ar_t_5, q_t_5, S_t_5, N_t_5, H_t_5, G_t_5⟩ := V_t_3
  obtain ⟨T5, h5, X5, e5, W5, st5⟩ := stB X4 hx hZ e4 Ar_t_5 (j := (3 : Int32)) (inb_of S_t_5 ⟨by decide, by decide⟩) (g := (mkF m 52 #[vr t, vi 3, vi x1] [(.int ((x1 >>> ((8 : Int32) &&& 31)).toInt8.toInt32)), (.int 3), (.ref t)])) rfl rfl (hb hby d_jdk_52_4_52)
  have V_t_5 : Arv Z h5 t k .byte (4 : Int32) [(.int (x0.toInt8.toInt32)), (.int ((x0 >>> ((8 : Int32) &&& 31)).toInt8.toInt32)), (.int (nar .byte (x1.toInt8.toInt32))), (.int (nar .byte ((x1 >>> ((8 : Int32) &&& 31)).toInt8.toInt32)))] (.int 0) := Arv.set Ar_t_5 q_t_5 S_t_5 N_t_5 H_t_5 G_t_5 (fits_nar_byte _) W5 3 rfl (Nat.le_of_ble_eq_true rfl)
  refine OEnds.st st5 ?_
  replace O0 : Ext Z.heap h5 := ext_wr O0 W5 ge_t
  replace N0 := Fr.snoc X5 N0 ge_t
  replace K0 : Keep h0 h5 [t] := K0.wr W5 (Or.inl (List.mem_of_getElem? (i := 0) rfl))
  simp only [nar_b8] at V_t_5
  exact OEnds.retV X5 hx hret hlk (hb hby d_jdk_52_4_53) (by decide) (by decide) (by rw [e5]; exact ⟨rfl, N0, K0, V_t_5⟩)
-- java/lang/StringUTF16.getChar:([BI)C
def Q_getC2_1 (Z : State) (t : Addr) (k : ClassId) (x0 x1 : Int32) (h0 : Heap) (v : Option Value) (h : Heap) (L : List Loc) : Prop := v = some (.int x1) ∧ Fr Z.heap.size L ∧ h = h0
theorem ef_getC2_1 (m : MethodId) (t : Addr) : entryFrame m #[(.ref t), (.int 1)] 2 = mkF m 0 #[vr t, vi 1] [] := by first | (simp [entryFrame, mkF, argsToLocals, Value.category, vi, vj, vr]; done) | rfl
set_option maxRecDepth 65536 in
set_option maxHeartbeats 40000000 in
theorem rm_getC2_1 (l : Launch) {Z : State} {a0 : Array Value} (hD : Wd Z a0) (t : Addr) (k : ClassId) (x0 x1 : Int32) {h0 : Heap} (O0 : Ext Z.heap h0) (V_t : Arv Z h0 t k .byte (4 : Int32) [(.int (x0.toInt8.toInt32)), (.int ((x0 >>> ((8 : Int32) &&& 31)).toInt8.toInt32)), (.int (x1.toInt8.toInt32)), (.int ((x1 >>> ((8 : Int32) &&& 31)).toInt8.toInt32))] (.int 0)) (hx1 : ¬ x1 < 0 ∧ ¬ (65535 : Int32) < x1) :
    Con l Z (⟨"java/lang/StringUTF16", "getChar", "([BI)C"⟩ : MethodName) jdk_52_method_5_code 2 (some .char) [] ({ frames := 0, cells := 0, slots := 0, locals := 0 } : Room) #[(.ref t), (.int 1)] h0 (Q_getC2_1 Z t k x0 x1 h0) := by
  refine Con.walk (plainFor_of_name pn_4) ?_
  intro p e s m below meth c T0 X0 hx hZ hby hml hown hnm hret hlk e0
  obtain ⟨hw, ⟨cz, S_CS, hcz⟩, ⟨sf, S_SF, hsf⟩, S_AD, S_HI, S_LO⟩ := id hD
  have N0 := Fr.nil Z.heap.size
  refine OEnds.cast (ef_getC2_1 m t) ?_
  obtain ⟨T1, X1, e1, st1⟩ := getS2 X0 hx hZ hown (host := "") (Or.inl (wq hw 98 rfl)) Via.refl e0 (S_AD.ext O0) (g := (mkF m 0 #[vr t, vi 1] [])) rfl (hb hby d_jdk_52_5_0)
  refine OEnds.st st1 ?_
  refine OEnds.st (S' := T1.setTop (mkF m 37 #[vr t, vi 3] [(.int 2), (.ref t)])) (fun _ k => ?_) ?_
  · refine XS.ifYes X1.here hx rfl (pc0 := 3) (pc' := 28) rfl (hb hby d_jdk_52_5_3) rfl ((if0 _ _).trans (feq (by decide)).2) (by decide) (by decide) ?_
    refine XS.iloadN X1.here hx rfl (hb hby d_jdk_52_5_28) rfl ?_
    refine XS.iconst X1.here hx rfl (hb hby d_jdk_52_5_29) ?_
    refine XS.ishl X1.here hx rfl (hb hby d_jdk_52_5_30) rfl ?_
    show Steps p.tables e below (T1.setTop (mkF m 31 #[vr t, vi 1] [(.int 2)])) _
    refine XS.istoreN X1.here hx rfl (hb hby d_jdk_52_5_31) rfl (l' := #[vr t, vi 2]) rfl ?_
    refine XS.aloadN X1.here hx rfl (hb hby d_jdk_52_5_32) rfl rfl ?_
    refine XS.iloadN X1.here hx rfl (hb hby d_jdk_52_5_33) rfl ?_
    refine XS.iinc X1.here hx rfl (hb hby d_jdk_52_5_34) rfl (l' := #[vr t, vi 3]) rfl ?_
    exact k
  obtain ⟨cl_t_2, Ar_t_2, q_t_2, S_t_2, N_t_2, H_t_2, G_t_2⟩ := id V_t
  refine OEnds.st (S' := T1.setTop (mkF m 38 #[vr t, vi 3] [(.int (x1.toInt8.toInt32))])) (X1.baloadBytes hx (j := (2 : Int32)) (v := (.int (x1.toInt8.toInt32))) (by rw [e1]; exact Ar_t_2.1) (State.isArrayOf_alike hZ.alike Ar_t_2.2.1) Ar_t_2.2.2 (inb_of S_t_2 ⟨by decide, by decide⟩) (H_t_2.at (inb_of S_t_2 ⟨by decide, by decide⟩) rfl) (g := (mkF m 37 #[vr t, vi 3] [(.int 2), (.ref t)])) rfl rfl (hb hby d_jdk_52_5_37)) ?_
  refine OEnds.st (S' := T1.setTop (mkF m 42 #[vr t, vi 3] [(.int ((x1.toInt8.toInt32) &&& (255 : Int32)))])) (fun _ k => ?_) ?_
  · refine XS.sipush X1.here hx rfl (hb hby d_jdk_52_5_38) ?_
    refine XS.iand X1.here hx rfl (hb hby d_jdk_52_5_41) rfl ?_
    exact k
  obtain ⟨T3, X3, e3, st3⟩ := getS2 X1 hx hZ hown (host := "") (Or.inl (wq hw 99 rfl)) Via.refl e1 (S_HI.ext O0) (g := (mkF m 42 #[vr t, vi 3] [(.int ((x1.toInt8.toInt32) &&& (255 : Int32)))])) rfl (hb hby d_jdk_52_5_42)
  refine OEnds.st st3 ?_
  refine OEnds.st (S' := T3.setTop (mkF m 48 #[vr t, vi 3] [(.int 3), (.ref t), (.int ((x1.toInt8.toInt32) &&& (255 : Int32)))])) (fun _ k => ?_) ?_
  · refine XS.ishl X3.here hx rfl (hb hby d_jdk_52_5_45) rfl ?_
    rw [shl0 ((x1.toInt8.toInt32) &&& (255 : Int32))]
    refine XS.aloadN X3.here hx rfl (hb hby d_jdk_52_5_46) rfl rfl ?_
    refine XS.iloadN X3.here hx rfl (hb hby d_jdk_52_5_47) rfl ?_
    exact k
  obtain ⟨cl_t_4, Ar_t_4, q_t_4, S_t_4, N_t_4, H_t_4, G_t_4⟩ := id V_t
  refine OEnds.st (S' := T3.setTop (mkF m 49 #[vr t, vi 3] [(.int ((x1 >>> ((8 : Int32) &&& 31)).toInt8.toInt32)), (.int ((x1.toInt8.toInt32) &&& (255 : Int32)))])) (X3.baloadBytes hx (j := (3 : Int32)) (v := (.int ((x1 >>> ((8 : Int32) &&& 31)).toInt8.toInt32))) (by rw [e3]; exact Ar_t_4.1) (State.isArrayOf_alike hZ.alike Ar_t_4.2.1) Ar_t_4.2.2 (inb_of S_t_4 ⟨by decide, by decide⟩) (H_t_4.at (inb_of S_t_4 ⟨by decide, by decide⟩) rfl) (g := (mkF m 48 #[vr t, vi 3] [(.int 3), (.ref t), (.int ((x1.toInt8.toInt32) &&& (255 : Int32)))])) rfl rfl (hb hby d_jdk_52_5_48)) ?_
  refine OEnds.st (S' := T3.setTop (mkF m 53 #[vr t, vi 3] [(.int (((x1 >>> ((8 : Int32) &&& 31)).toInt8.toInt32) &&& (255 : Int32))), (.int ((x1.toInt8.toInt32) &&& (255 : Int32)))])) (fun _ k => ?_) ?_
  · refine XS.sipush X3.here hx rfl (hb hby d_jdk_52_5_49) ?_
    refine XS.iand X3.here hx rfl (hb hby d_jdk_52_5_52) rfl ?_
    exact k
  obtain ⟨T5, X5, e5, st5⟩ := getS2 X3 hx hZ hown (host := "") (Or.inl (wq hw 100 rfl)) Via.refl e3 (S_LO.ext O0) (g := (mkF m 53 #[vr t, vi 3] [(.int (((x1 >>> ((8 : Int32) &&& 31)).toInt8.toInt32) &&& (255 : Int32))), (.int ((x1.toInt8.toInt32) &&& (255 : Int32)))])) rfl (hb hby d_jdk_52_5_53)
  refine OEnds.st st5 ?_
  refine OEnds.st (S' := T5.setTop (mkF m 59 #[vr t, vi 3] [(.int ((((x1.toInt8.toInt32) &&& (255 : Int32)) ||| ((((x1 >>> ((8 : Int32) &&& 31)).toInt8.toInt32) &&& (255 : Int32)) <<< ((8 : Int32) &&& 31))).toUInt32.toUInt16.toUInt32.toInt32))])) (fun _ k => ?_) ?_
  · refine XS.ishl X5.here hx rfl (hb hby d_jdk_52_5_56) rfl ?_
    refine XS.ior X5.here hx rfl (hb hby d_jdk_52_5_57) rfl ?_
    refine XS.i2c X5.here hx rfl (hb hby d_jdk_52_5_58) rfl ?_
    exact k
  rw [gch hx1]
  exact OEnds.ret X5 hx hret hlk (StrChars.narrow_ch hx1.1 hx1.2) (Or.inl ⟨rfl, by simp, _, rfl⟩) (hb hby d_jdk_52_5_59) (by decide) (by decide) (by rw [e5]; exact ⟨rfl, N0, rfl⟩)
-- java/lang/StringUTF16.toBytes:([CII)[B
def Q_toB2 (Z : State) (tc : Addr) (kc : ClassId) (x0 x1 : Int32) (h0 : Heap) (v : Option Value) (h : Heap) (L : List Loc) : Prop := ∃ (t : Addr) (k : ClassId), v = some (.ref t) ∧ Fr Z.heap.size L ∧ Keep h0 h [] ∧ h0.size ≤ t ∧ Arv Z h t k .byte (4 : Int32) [(.int (x0.toInt8.toInt32)), (.int ((x0 >>> ((8 : Int32) &&& 31)).toInt8.toInt32)), (.int (x1.toInt8.toInt32)), (.int ((x1 >>> ((8 : Int32) &&& 31)).toInt8.toInt32))] (.int 0)
theorem ef_toB2 (m : MethodId) (tc : Addr) : entryFrame m #[(.ref tc), (.int 0), (.int 2)] 5 = mkF m 0 #[vr tc, vi 0, vi 2, .unset, .unset] [] := by first | (simp [entryFrame, mkF, argsToLocals, Value.category, vi, vj, vr]; done) | rfl
set_option maxRecDepth 65536 in
set_option maxHeartbeats 40000000 in
theorem rm_toB2 (l : Launch) {Z : State} {a0 : Array Value} (hD : Wd Z a0) (tc : Addr) (kc : ClassId) (x0 x1 : Int32) {h0 : Heap} (O0 : Ext Z.heap h0) (V_tc : Arv Z h0 tc kc .char (2 : Int32) [(.int x0), (.int x1)] (.int 0)) :
    Con l Z (⟨"java/lang/StringUTF16", "toBytes", "([CII)[B"⟩ : MethodName) jdk_52_method_14_code 5 (some (.array .byte)) [] ({ frames := 2, cells := 1, slots := 4, locals := 24 } : Room) #[(.ref tc), (.int 0), (.int 2)] h0 (Q_toB2 Z tc kc x0 x1 h0) := by
  refine Con.walk (plainFor_of_name pn_4) ?_
  intro p e s m below meth c T0 X0 hx hZ hby hml hown hnm hret hlk e0
  obtain ⟨hw, ⟨cz, S_CS, hcz⟩, ⟨sf, S_SF, hsf⟩, S_AD, S_HI, S_LO⟩ := id hD
  have N0 := Fr.nil Z.heap.size
  have K0 : Keep h0 h0 [] := Keep.refl _ _
  refine OEnds.cast (ef_toB2 m tc) ?_
  refine OEnds.st (S' := T0.setTop (mkF m 1 #[vr tc, vi 0, vi 2, .unset, .unset] [(.int 2)])) (fun _ k => ?_) ?_
  · refine XS.iloadN X0.here hx rfl (hb hby d_jdk_52_14_0) rfl ?_
    exact k
  obtain ⟨_, T1, h1, L1, X1, e1, hQ1, st1⟩ := callC X0 hx hZ hown (wq hw 88 rfl) (wq hw 89 rfl) (wq hw 22 rfl) (wq hw 90 rfl) (by decide) (kc := 1) (ks := 4) (Con.sb (W := 0) (rm_nbFor2 l hD  O0) hZ (wq hw 90 rfl) (wq hw 22 rfl) (by decide) (by decide)) e0 (g := (mkF m 1 #[vr tc, vi 0, vi 2, .unset, .unset] [(.int 2)])) rfl (by rw [hml]; rfl) (argsL := [(.int 2)]) (rest := []) (lenOf pd_2 rfl) rfl (by show 2 * 0 + _ ≤ _; exact Nat.le_of_eq rfl) (hb hby d_jdk_52_14_1) (by decide) (by decide)
  obtain ⟨t1, k1, rfl, Nq1, Kq1, szq1, V1⟩ := hQ1
  refine OEnds.st st1 ?_
  replace N0 := Fr.app N0 Nq1
  have ne_tc_t1 : tc ≠ t1 := Nat.ne_of_lt (Nat.lt_of_lt_of_le V_tc.lt szq1)
  have ge_t1 : Z.heap.size ≤ t1 := Nat.le_trans O0.1 szq1
  have sz_t1 : h0.size ≤ t1 := Nat.le_trans K0.1 szq1
  replace V_tc := V_tc.keep Kq1 nin0
  replace O0 : Ext Z.heap h1 := ext_keep O0 Kq1 all0
  replace K0 : Keep h0 h1 [] := K0.trans Kq1 all0
  refine OEnds.st (S' := T1.setTop (mkF m 19 #[vr tc, vi 0, vi 2, vr t1, vi 0] [(.int 0), (.ref tc), (.int 0), (.ref t1)])) (fun _ k => ?_) ?_
  · refine XS.astoreN X1.here hx rfl (hb hby d_jdk_52_14_4) rfl rfl (l' := #[vr tc, vi 0, vi 2, vr t1, .unset]) rfl ?_
    refine XS.iconst X1.here hx rfl (hb hby d_jdk_52_14_5) ?_
    refine XS.istore X1.here hx rfl (hb hby d_jdk_52_14_6) rfl (l' := #[vr tc, vi 0, vi 2, vr t1, vi 0]) rfl ?_
    refine XS.iload X1.here hx rfl (hb hby d_jdk_52_14_8) rfl ?_
    show Steps p.tables e below (T1.setTop (mkF m 10 #[vr tc, vi 0, vi 2, vr t1, vi 0] [(.int 0)])) _
    refine XS.iloadN X1.here hx rfl (hb hby d_jdk_52_14_10) rfl ?_
    refine XS.icmpNo X1.here hx rfl (hb hby d_jdk_52_14_11) rfl (tlt (by decide)).2.1 ?_
    refine XS.aloadN X1.here hx rfl (hb hby d_jdk_52_14_14) rfl rfl ?_
    refine XS.iload X1.here hx rfl (hb hby d_jdk_52_14_15) rfl ?_
    show Steps p.tables e below (T1.setTop (mkF m 17 #[vr tc, vi 0, vi 2, vr t1, vi 0] [(.int 0), (.ref t1)])) _
    refine XS.aloadN X1.here hx rfl (hb hby d_jdk_52_14_17) rfl rfl ?_
    refine XS.iloadN X1.here hx rfl (hb hby d_jdk_52_14_18) rfl ?_
    exact k
  obtain ⟨cl_tc_2, Ar_tc_2, q_tc_2, S_tc_2, N_tc_2, H_tc_2, G_tc_2⟩ := id V_tc
  refine OEnds.st (S' := T1.setTop (mkF m 20 #[vr tc, vi 0, vi 2, vr t1, vi 0] [(.int x0), (.int 0), (.ref t1)])) (X1.caload hx (j := (0 : Int32)) (v := (.int x0)) (by rw [e1]; exact Ar_tc_2.1) (State.isArrayOf_alike hZ.alike Ar_tc_2.2.1) Ar_tc_2.2.2 (inb_of S_tc_2 ⟨by decide, by decide⟩) (H_tc_2.at (inb_of S_tc_2 ⟨by decide, by decide⟩) rfl) (g := (mkF m 19 #[vr tc, vi 0, vi 2, vr t1, vi 0] [(.int 0), (.ref tc), (.int 0), (.ref t1)])) rfl rfl (hb hby d_jdk_52_14_19)) ?_
  obtain ⟨_, T3, h3, L3, X3, e3, hQ3, st3⟩ := callC X1 hx hZ hown (wq hw 95 rfl) (wq hw 96 rfl) (wq hw 22 rfl) (wq hw 97 rfl) (by decide) (kc := 0) (ks := 0) (Con.sb (W := 0) (rm_putC2_0 l hD t1 x0 k1 O0 V1 ge_t1) hZ (wq hw 97 rfl) (wq hw 22 rfl) (by decide) (by decide)) e1 (g := (mkF m 20 #[vr tc, vi 0, vi 2, vr t1, vi 0] [(.int x0), (.int 0), (.ref t1)])) rfl (by rw [hml]; rfl) (argsL := [(.ref t1), (.int 0), (.int x0)]) (rest := []) (lenOf pd_3 rfl) rfl (by show 2 * 0 + _ ≤ _; exact Nat.le_of_eq rfl) (hb hby d_jdk_52_14_20) (by decide) (by decide)
  obtain ⟨rfl, Nq3, Kq3, V3⟩ := hQ3
  refine OEnds.st st3 ?_
  replace N0 := Fr.app N0 Nq3
  replace V_tc := V_tc.keep Kq3 (ninS ne_tc_t1 nin0)
  replace O0 : Ext Z.heap h3 := ext_keep O0 Kq3 (allS ge_t1 all0)
  replace K0 : Keep h0 h3 [] := K0.trans Kq3 (allS (Or.inr sz_t1) all0)
  refine OEnds.st (S' := T3.setTop (mkF m 19 #[vr tc, vi 1, vi 2, vr t1, vi 1] [(.int 1), (.ref tc), (.int 1), (.ref t1)])) (fun _ k => ?_) ?_
  · refine XS.iinc X3.here hx rfl (hb hby d_jdk_52_14_23) rfl (l' := #[vr tc, vi 1, vi 2, vr t1, vi 0]) rfl ?_
    refine XS.iinc X3.here hx rfl (hb hby d_jdk_52_14_26) rfl (l' := #[vr tc, vi 1, vi 2, vr t1, vi 1]) rfl ?_
    refine XS.goto X3.here hx rfl (pc0 := 29) (pc' := 8) rfl (hb hby d_jdk_52_14_29) (by decide) (by decide) ?_
    refine XS.iload X3.here hx rfl (hb hby d_jdk_52_14_8) rfl ?_
    show Steps p.tables e below (T3.setTop (mkF m 10 #[vr tc, vi 1, vi 2, vr t1, vi 1] [(.int 1)])) _
    refine XS.iloadN X3.here hx rfl (hb hby d_jdk_52_14_10) rfl ?_
    refine XS.icmpNo X3.here hx rfl (hb hby d_jdk_52_14_11) rfl (tlt (by decide)).2.1 ?_
    refine XS.aloadN X3.here hx rfl (hb hby d_jdk_52_14_14) rfl rfl ?_
    refine XS.iload X3.here hx rfl (hb hby d_jdk_52_14_15) rfl ?_
    show Steps p.tables e below (T3.setTop (mkF m 17 #[vr tc, vi 1, vi 2, vr t1, vi 1] [(.int 1), (.ref t1)])) _
    refine XS.aloadN X3.here hx rfl (hb hby d_jdk_52_14_17) rfl rfl ?_
    refine XS.iloadN X3.here hx rfl (hb hby d_jdk_52_14_18) rfl ?_
    exact k
  obtain ⟨cl_tc_4, Ar_tc_4, q_tc_4, S_tc_4, N_tc_4, H_tc_4, G_tc_4⟩ := id V_tc
  refine OEnds.st (S' := T3.setTop (mkF m 20 #[vr tc, vi 1, vi 2, vr t1, vi 1] [(.int x1), (.int 1), (.ref t1)])) (X3.caload hx (j := (1 : Int32)) (v := (.int x1)) (by rw [e3]; exact Ar_tc_4.1) (State.isArrayOf_alike hZ.alike Ar_tc_4.2.1) Ar_tc_4.2.2 (inb_of S_tc_4 ⟨by decide, by decide⟩) (H_tc_4.at (inb_of S_tc_4 ⟨by decide, by decide⟩) rfl) (g := (mkF m 19 #[vr tc, vi 1, vi 2, vr t1, vi 1] [(.int 1), (.ref tc), (.int 1), (.ref t1)])) rfl rfl (hb hby d_jdk_52_14_19)) ?_
  obtain ⟨_, T5, h5, L5, X5, e5, hQ5, st5⟩ := callC X3 hx hZ hown (wq hw 95 rfl) (wq hw 96 rfl) (wq hw 22 rfl) (wq hw 97 rfl) (by decide) (kc := 0) (ks := 0) (Con.sb (W := 0) (rm_putC2_1 l hD t1 x1 k1 x0 O0 V3 ge_t1) hZ (wq hw 97 rfl) (wq hw 22 rfl) (by decide) (by decide)) e3 (g := (mkF m 20 #[vr tc, vi 1, vi 2, vr t1, vi 1] [(.int x1), (.int 1), (.ref t1)])) rfl (by rw [hml]; rfl) (argsL := [(.ref t1), (.int 1), (.int x1)]) (rest := []) (lenOf pd_3 rfl) rfl (by show 2 * 0 + _ ≤ _; exact Nat.le_of_eq rfl) (hb hby d_jdk_52_14_20) (by decide) (by decide)
  obtain ⟨rfl, Nq5, Kq5, V5⟩ := hQ5
  refine OEnds.st st5 ?_
  replace N0 := Fr.app N0 Nq5
  replace V_tc := V_tc.keep Kq5 (ninS ne_tc_t1 nin0)
  replace O0 : Ext Z.heap h5 := ext_keep O0 Kq5 (allS ge_t1 all0)
  replace K0 : Keep h0 h5 [] := K0.trans Kq5 (allS (Or.inr sz_t1) all0)
  refine OEnds.st (S' := T5.setTop (mkF m 33 #[vr tc, vi 2, vi 2, vr t1, vi 2] [(.ref t1)])) (fun _ k => ?_) ?_
  · refine XS.iinc X5.here hx rfl (hb hby d_jdk_52_14_23) rfl (l' := #[vr tc, vi 2, vi 2, vr t1, vi 1]) rfl ?_
    refine XS.iinc X5.here hx rfl (hb hby d_jdk_52_14_26) rfl (l' := #[vr tc, vi 2, vi 2, vr t1, vi 2]) rfl ?_
    refine XS.goto X5.here hx rfl (pc0 := 29) (pc' := 8) rfl (hb hby d_jdk_52_14_29) (by decide) (by decide) ?_
    refine XS.iload X5.here hx rfl (hb hby d_jdk_52_14_8) rfl ?_
    show Steps p.tables e below (T5.setTop (mkF m 10 #[vr tc, vi 2, vi 2, vr t1, vi 2] [(.int 2)])) _
    refine XS.iloadN X5.here hx rfl (hb hby d_jdk_52_14_10) rfl ?_
    refine XS.icmpYes X5.here hx rfl (pc0 := 11) (pc' := 32) rfl (hb hby d_jdk_52_14_11) rfl (flt (by decide)).2.1 (by decide) (by decide) ?_
    refine XS.aloadN X5.here hx rfl (hb hby d_jdk_52_14_32) rfl rfl ?_
    exact k
  exact OEnds.ret X5 hx hret hlk rfl (Or.inr (Or.inr (Or.inr (Or.inr ⟨rfl, rfl, rfl⟩)))) (hb hby d_jdk_52_14_33) (by decide) (by decide) (by rw [e5]; exact ⟨t1, _, rfl, N0, K0, sz_t1, V5⟩)
-- java/lang/StringUTF16.compress:([CII)[B
def Q_comp3_2 (Z : State) (tc : Addr) (kc : ClassId) (x0 x1 : Int32) (h0 : Heap) (v : Option Value) (h : Heap) (L : List Loc) : Prop := ∃ (t : Addr) (k : ClassId), v = some (.ref t) ∧ Fr Z.heap.size L ∧ Keep h0 h [] ∧ h0.size ≤ t ∧ ((¬ (255 : Int32) < x0 ∧ ¬ (255 : Int32) < x1 ∧ Arv Z h t k .byte (2 : Int32) [(.int (x0.toInt8.toInt32)), (.int (x1.toInt8.toInt32))] (.int 0)) ∨ Arv Z h t k .byte (4 : Int32) [(.int (x0.toInt8.toInt32)), (.int ((x0 >>> ((8 : Int32) &&& 31)).toInt8.toInt32)), (.int (x1.toInt8.toInt32)), (.int ((x1 >>> ((8 : Int32) &&& 31)).toInt8.toInt32))] (.int 0))
theorem ef_comp3_2 (m : MethodId) (tc : Addr) : entryFrame m #[(.ref tc), (.int 0), (.int 2)] 6 = mkF m 0 #[vr tc, vi 0, vi 2, .unset, .unset, .unset] [] := by first | (simp [entryFrame, mkF, argsToLocals, Value.category, vi, vj, vr]; done) | rfl
set_option maxRecDepth 65536 in
set_option maxHeartbeats 40000000 in
theorem rm_comp3_2 (l : Launch) {Z : State} {a0 : Array Value} (hD : Wd Z a0) (tc : Addr) (kc : ClassId) (x0 x1 : Int32) {h0 : Heap} (O0 : Ext Z.heap h0) (V_tc : Arv Z h0 tc kc .char (2 : Int32) [(.int x0), (.int x1)] (.int 0)) (hx0 : ¬ x0 < 0 ∧ ¬ (65535 : Int32) < x0) (hx1 : ¬ x1 < 0 ∧ ¬ (65535 : Int32) < x1) :
    Con l Z (⟨"java/lang/StringUTF16", "compress", "([CII)[B"⟩ : MethodName) jdk_52_method_16_code 6 (some (.array .byte)) [] ({ frames := 3, cells := 2, slots := 6, locals := 40 } : Room) #[(.ref tc), (.int 0), (.int 2)] h0 (Q_comp3_2 Z tc kc x0 x1 h0) := by
  refine Con.walk (plainFor_of_name pn_4) ?_
  intro p e s m below meth c T0 X0 hx hZ hby hml hown hnm hret hlk e0
  obtain ⟨hw, ⟨cz, S_CS, hcz⟩, ⟨sf, S_SF, hsf⟩, S_AD, S_HI, S_LO⟩ := id hD
  have N0 := Fr.nil Z.heap.size
  have K0 : Keep h0 h0 [] := Keep.refl _ _
  refine OEnds.cast (ef_comp3_2 m tc) ?_
  refine OEnds.st (S' := T0.setTop (mkF m 1 #[vr tc, vi 0, vi 2, .unset, .unset, .unset] [(.int 2)])) (fun _ k => ?_) ?_
  · refine XS.iloadN X0.here hx rfl (hb hby d_jdk_52_16_0) rfl ?_
    exact k
  obtain ⟨T1, h1, k1, X1, e1, E1, A1, st1⟩ := newP X0 hx hZ (wq hw 24 rfl) e0 (g := (mkF m 1 #[vr tc, vi 0, vi 2, .unset, .unset, .unset] [(.int 2)])) rfl (hb hby d_jdk_52_16_1) rfl (by decide) (cap := 2) (by decide) (by decide) (by decide) (by decide)
  obtain ⟨b1, g1⟩ : ∃ z, z = h0.size := ⟨_, rfl⟩
  rw [← g1] at A1 st1
  refine OEnds.st st1 ?_
  have ne_tc_b1 : tc ≠ b1 := Nat.ne_of_lt (Nat.lt_of_lt_of_le V_tc.lt (Nat.le_of_eq g1.symm))
  have ge_b1 : Z.heap.size ≤ b1 := Nat.le_trans O0.1 (Nat.le_of_eq g1.symm)
  have sz_b1 : h0.size ≤ b1 := Nat.le_trans K0.1 (Nat.le_of_eq g1.symm)
  replace V_tc := V_tc.ext E1
  replace O0 : Ext Z.heap h1 := ext_trans O0 E1
  replace K0 : Keep h0 h1 [] := K0.ext E1
  have V_b1 : Arv Z h1 b1 k1 .byte (2 : Int32) [(.int 0), (.int 0)] (.int 0) := (Arv.new A1 (by decide)).pad (pad_rep [] (.int 0) 2)
  refine OEnds.st (S' := T1.setTop (mkF m 9 #[vr tc, vi 0, vi 2, vr b1, .unset, .unset] [(.int 2), (.int 0), (.ref b1), (.int 0), (.ref tc)])) (fun _ k => ?_) ?_
  · refine XS.astoreN X1.here hx rfl (hb hby d_jdk_52_16_3) rfl rfl (l' := #[vr tc, vi 0, vi 2, vr b1, .unset, .unset]) rfl ?_
    refine XS.aloadN X1.here hx rfl (hb hby d_jdk_52_16_4) rfl rfl ?_
    refine XS.iloadN X1.here hx rfl (hb hby d_jdk_52_16_5) rfl ?_
    refine XS.aloadN X1.here hx rfl (hb hby d_jdk_52_16_6) rfl rfl ?_
    show Steps p.tables e below (T1.setTop (mkF m 7 #[vr tc, vi 0, vi 2, vr b1, .unset, .unset] [(.ref b1), (.int 0), (.ref tc)])) _
    refine XS.iconst X1.here hx rfl (hb hby d_jdk_52_16_7) ?_
    refine XS.iloadN X1.here hx rfl (hb hby d_jdk_52_16_8) rfl ?_
    exact k
  obtain ⟨_, T2, h2, L2, X2, e2, hQ2, st2⟩ := callC X1 hx hZ hown (wq hw 25 rfl) (wq hw 26 rfl) (wq hw 22 rfl) (wq hw 27 rfl) (by decide) (kc := 0) (ks := 0) (Con.sb (W := 0) (rm_comp2_2 l hD tc b1 kc k1 x0 x1 O0 V_tc V_b1 ge_b1 ne_tc_b1) hZ (wq hw 27 rfl) (wq hw 22 rfl) (by decide) (by decide)) e1 (g := (mkF m 9 #[vr tc, vi 0, vi 2, vr b1, .unset, .unset] [(.int 2), (.int 0), (.ref b1), (.int 0), (.ref tc)])) rfl (by rw [hml]; rfl) (argsL := [(.ref tc), (.int 0), (.ref b1), (.int 0), (.int 2)]) (rest := []) (lenOf pd_4 rfl) rfl (by show 2 * 0 + _ ≤ _; exact Nat.le_of_eq rfl) (hb hby d_jdk_52_16_9) (by decide) (by decide)
  obtain ⟨r2, rfl, Nq2, Kq2, hr2⟩ := hQ2
  refine OEnds.st st2 ?_
  replace N0 := Fr.app N0 Nq2
  replace V_tc := V_tc.keep Kq2 (ninS ne_tc_b1 nin0)
  replace O0 : Ext Z.heap h2 := ext_keep O0 Kq2 (allS ge_b1 all0)
  replace K0 : Keep h0 h2 [] := K0.trans Kq2 (allS (Or.inr sz_b1) all0)
  rcases hr2 with ⟨rfl, g0, g1, Vt⟩ | ⟨rfl, gg⟩ | ⟨rfl, gg⟩
  · refine OEnds.st (S' := T2.setTop (mkF m 58 #[vr tc, vi 0, vi 2, vr b1, vi 2, .unset] [(.ref b1)])) (fun _ k => ?_) ?_
    · refine XS.istore X2.here hx rfl (hb hby d_jdk_52_16_12) rfl (l' := #[vr tc, vi 0, vi 2, vr b1, vi 2, .unset]) rfl ?_
      refine XS.iload X2.here hx rfl (hb hby d_jdk_52_16_14) rfl ?_
      refine XS.iloadN X2.here hx rfl (hb hby d_jdk_52_16_16) rfl ?_
      refine XS.icmpYes X2.here hx rfl (pc0 := 17) (pc' := 57) rfl (hb hby d_jdk_52_16_17) rfl (teq (by decide)).1 (by decide) (by decide) ?_
      show Steps p.tables e below (T2.setTop (mkF m 57 #[vr tc, vi 0, vi 2, vr b1, vi 2, .unset] [])) _
      refine XS.aloadN X2.here hx rfl (hb hby d_jdk_52_16_57) rfl rfl ?_
      exact k
    exact OEnds.ret X2 hx hret hlk rfl (Or.inr (Or.inr (Or.inr (Or.inr ⟨rfl, rfl, rfl⟩)))) (hb hby d_jdk_52_16_58) (by decide) (by decide) (by rw [e2]; exact ⟨b1, _, rfl, N0, K0, sz_b1, Or.inl ⟨g0, g1, Vt⟩⟩)
  · refine OEnds.st (S' := T2.setTop (mkF m 23 #[vr tc, vi 0, vi 2, vr b1, vi 0, .unset] [(.int 2), (.int 0), (.ref tc)])) (fun _ k => ?_) ?_
    · refine XS.istore X2.here hx rfl (hb hby d_jdk_52_16_12) rfl (l' := #[vr tc, vi 0, vi 2, vr b1, vi 0, .unset]) rfl ?_
      refine XS.iload X2.here hx rfl (hb hby d_jdk_52_16_14) rfl ?_
      refine XS.iloadN X2.here hx rfl (hb hby d_jdk_52_16_16) rfl ?_
      refine XS.icmpNo X2.here hx rfl (hb hby d_jdk_52_16_17) rfl (feq (by decide)).1 ?_
      show Steps p.tables e below (T2.setTop (mkF m 20 #[vr tc, vi 0, vi 2, vr b1, vi 0, .unset] [])) _
      refine XS.aloadN X2.here hx rfl (hb hby d_jdk_52_16_20) rfl rfl ?_
      refine XS.iloadN X2.here hx rfl (hb hby d_jdk_52_16_21) rfl ?_
      refine XS.iloadN X2.here hx rfl (hb hby d_jdk_52_16_22) rfl ?_
      exact k
    obtain ⟨_, T3, h3, L3, X3, e3, hQ3, st3⟩ := callC X2 hx hZ hown (wq hw 85 rfl) (wq hw 86 rfl) (wq hw 22 rfl) (wq hw 87 rfl) (by decide) (kc := 1) (ks := 4) (Con.sb (W := 0) (rm_toB2 l hD tc kc x0 x1 O0 V_tc) hZ (wq hw 87 rfl) (wq hw 22 rfl) (by decide) (by decide)) e2 (g := (mkF m 23 #[vr tc, vi 0, vi 2, vr b1, vi 0, .unset] [(.int 2), (.int 0), (.ref tc)])) rfl (by rw [hml]; rfl) (argsL := [(.ref tc), (.int 0), (.int 2)]) (rest := []) (lenOf pd_5 rfl) rfl (by show 2 * 0 + _ ≤ _; exact Nat.le_of_eq rfl) (hb hby d_jdk_52_16_23) (by decide) (by decide)
    obtain ⟨t3, k3, rfl, Nq3, Kq3, szq3, V3⟩ := hQ3
    refine OEnds.st st3 ?_
    replace N0 := Fr.app N0 Nq3
    have ne_tc_t3 : tc ≠ t3 := Nat.ne_of_lt (Nat.lt_of_lt_of_le V_tc.lt szq3)
    have ge_t3 : Z.heap.size ≤ t3 := Nat.le_trans O0.1 szq3
    have sz_t3 : h0.size ≤ t3 := Nat.le_trans K0.1 szq3
    replace V_tc := V_tc.keep Kq3 nin0
    replace O0 : Ext Z.heap h3 := ext_keep O0 Kq3 all0
    replace K0 : Keep h0 h3 [] := K0.trans Kq3 all0
    refine OEnds.st (S' := T3.setTop (mkF m 32 #[vr tc, vi 0, vi 2, vr b1, vi 0, vr t3] [(.int 0), (.ref t3)])) (fun _ k => ?_) ?_
    · refine XS.astore X3.here hx rfl (hb hby d_jdk_52_16_26) rfl rfl (l' := #[vr tc, vi 0, vi 2, vr b1, vi 0, vr t3]) rfl ?_
      refine XS.aload X3.here hx rfl (hb hby d_jdk_52_16_28) rfl rfl ?_
      refine XS.iload X3.here hx rfl (hb hby d_jdk_52_16_30) rfl ?_
      exact k
    obtain ⟨_, T4, h4, L4, X4, e4, hQ4, st4⟩ := callC X3 hx hZ hown (wq hw 101 rfl) (wq hw 102 rfl) (wq hw 22 rfl) (wq hw 103 rfl) (by decide) (kc := 0) (ks := 0) (Con.sb (W := 0) (rm_getC2_0 l hD t3 k3 x0 x1 O0 V3 hx0) hZ (wq hw 103 rfl) (wq hw 22 rfl) (by decide) (by decide)) e3 (g := (mkF m 32 #[vr tc, vi 0, vi 2, vr b1, vi 0, vr t3] [(.int 0), (.ref t3)])) rfl (by rw [hml]; rfl) (argsL := [(.ref t3), (.int 0)]) (rest := []) (lenOf pd_6 rfl) rfl (by show 2 * 0 + _ ≤ _; exact Nat.le_of_eq rfl) (hb hby d_jdk_52_16_32) (by decide) (by decide)
    obtain ⟨rfl, Nq4, Hq4⟩ := hQ4
    refine OEnds.st st4 ?_
    replace N0 := Fr.app N0 Nq4
    replace e4 := e4.trans Hq4
    refine OEnds.st (S' := T4.setTop (mkF m 56 #[vr tc, vi 0, vi 2, vr b1, vi 0, vr t3] [(.ref t3)])) (fun _ k => ?_) ?_
    · refine XS.sipush X4.here hx rfl (hb hby d_jdk_52_16_35) ?_
      refine XS.icmpYes X4.here hx rfl (pc0 := 38) (pc' := 54) rfl (hb hby d_jdk_52_16_38) rfl (tlt gg).2.2.1 (by decide) (by decide) ?_
      refine XS.aload X4.here hx rfl (hb hby d_jdk_52_16_54) rfl rfl ?_
      exact k
    exact OEnds.ret X4 hx hret hlk rfl (Or.inr (Or.inr (Or.inr (Or.inr ⟨rfl, rfl, rfl⟩)))) (hb hby d_jdk_52_16_56) (by decide) (by decide) (by rw [e4]; exact ⟨t3, _, rfl, N0, K0, sz_t3, Or.inr V3⟩)
  · refine OEnds.st (S' := T2.setTop (mkF m 23 #[vr tc, vi 0, vi 2, vr b1, vi 1, .unset] [(.int 2), (.int 0), (.ref tc)])) (fun _ k => ?_) ?_
    · refine XS.istore X2.here hx rfl (hb hby d_jdk_52_16_12) rfl (l' := #[vr tc, vi 0, vi 2, vr b1, vi 1, .unset]) rfl ?_
      refine XS.iload X2.here hx rfl (hb hby d_jdk_52_16_14) rfl ?_
      refine XS.iloadN X2.here hx rfl (hb hby d_jdk_52_16_16) rfl ?_
      refine XS.icmpNo X2.here hx rfl (hb hby d_jdk_52_16_17) rfl (feq (by decide)).1 ?_
      show Steps p.tables e below (T2.setTop (mkF m 20 #[vr tc, vi 0, vi 2, vr b1, vi 1, .unset] [])) _
      refine XS.aloadN X2.here hx rfl (hb hby d_jdk_52_16_20) rfl rfl ?_
      refine XS.iloadN X2.here hx rfl (hb hby d_jdk_52_16_21) rfl ?_
      refine XS.iloadN X2.here hx rfl (hb hby d_jdk_52_16_22) rfl ?_
      exact k
    obtain ⟨_, T3, h3, L3, X3, e3, hQ3, st3⟩ := callC X2 hx hZ hown (wq hw 85 rfl) (wq hw 86 rfl) (wq hw 22 rfl) (wq hw 87 rfl) (by decide) (kc := 1) (ks := 4) (Con.sb (W := 0) (rm_toB2 l hD tc kc x0 x1 O0 V_tc) hZ (wq hw 87 rfl) (wq hw 22 rfl) (by decide) (by decide)) e2 (g := (mkF m 23 #[vr tc, vi 0, vi 2, vr b1, vi 1, .unset] [(.int 2), (.int 0), (.ref tc)])) rfl (by rw [hml]; rfl) (argsL := [(.ref tc), (.int 0), (.int 2)]) (rest := []) (lenOf pd_5 rfl) rfl (by show 2 * 0 + _ ≤ _; exact Nat.le_of_eq rfl) (hb hby d_jdk_52_16_23) (by decide) (by decide)
    obtain ⟨t3, k3, rfl, Nq3, Kq3, szq3, V3⟩ := hQ3
    refine OEnds.st st3 ?_
    replace N0 := Fr.app N0 Nq3
    have ne_tc_t3 : tc ≠ t3 := Nat.ne_of_lt (Nat.lt_of_lt_of_le V_tc.lt szq3)
    have ge_t3 : Z.heap.size ≤ t3 := Nat.le_trans O0.1 szq3
    have sz_t3 : h0.size ≤ t3 := Nat.le_trans K0.1 szq3
    replace V_tc := V_tc.keep Kq3 nin0
    replace O0 : Ext Z.heap h3 := ext_keep O0 Kq3 all0
    replace K0 : Keep h0 h3 [] := K0.trans Kq3 all0
    refine OEnds.st (S' := T3.setTop (mkF m 32 #[vr tc, vi 0, vi 2, vr b1, vi 1, vr t3] [(.int 1), (.ref t3)])) (fun _ k => ?_) ?_
    · refine XS.astore X3.here hx rfl (hb hby d_jdk_52_16_26) rfl rfl (l' := #[vr tc, vi 0, vi 2, vr b1, vi 1, vr t3]) rfl ?_
      refine XS.aload X3.here hx rfl (hb hby d_jdk_52_16_28) rfl rfl ?_
      refine XS.iload X3.here hx rfl (hb hby d_jdk_52_16_30) rfl ?_
      exact k
    obtain ⟨_, T4, h4, L4, X4, e4, hQ4, st4⟩ := callC X3 hx hZ hown (wq hw 101 rfl) (wq hw 102 rfl) (wq hw 22 rfl) (wq hw 103 rfl) (by decide) (kc := 0) (ks := 0) (Con.sb (W := 0) (rm_getC2_1 l hD t3 k3 x0 x1 O0 V3 hx1) hZ (wq hw 103 rfl) (wq hw 22 rfl) (by decide) (by decide)) e3 (g := (mkF m 32 #[vr tc, vi 0, vi 2, vr b1, vi 1, vr t3] [(.int 1), (.ref t3)])) rfl (by rw [hml]; rfl) (argsL := [(.ref t3), (.int 1)]) (rest := []) (lenOf pd_6 rfl) rfl (by show 2 * 0 + _ ≤ _; exact Nat.le_of_eq rfl) (hb hby d_jdk_52_16_32) (by decide) (by decide)
    obtain ⟨rfl, Nq4, Hq4⟩ := hQ4
    refine OEnds.st st4 ?_
    replace N0 := Fr.app N0 Nq4
    replace e4 := e4.trans Hq4
    refine OEnds.st (S' := T4.setTop (mkF m 56 #[vr tc, vi 0, vi 2, vr b1, vi 1, vr t3] [(.ref t3)])) (fun _ k => ?_) ?_
    · refine XS.sipush X4.here hx rfl (hb hby d_jdk_52_16_35) ?_
      refine XS.icmpYes X4.here hx rfl (pc0 := 38) (pc' := 54) rfl (hb hby d_jdk_52_16_38) rfl (tlt gg).2.2.1 (by decide) (by decide) ?_
      refine XS.aload X4.here hx rfl (hb hby d_jdk_52_16_54) rfl rfl ?_
      exact k
    exact OEnds.ret X4 hx hret hlk rfl (Or.inr (Or.inr (Or.inr (Or.inr ⟨rfl, rfl, rfl⟩)))) (hb hby d_jdk_52_16_56) (by decide) (by decide) (by rw [e4]; exact ⟨t3, _, rfl, N0, K0, sz_t3, Or.inr V3⟩)
-- java/lang/StringUTF16.coderFromArrayLen:([BI)B
def Q_cal2_0 (Z : State) (t : Addr) (k : ClassId) (us : List Value) (h0 : Heap) (v : Option Value) (h : Heap) (L : List Loc) : Prop := v = some (.int 0) ∧ Fr Z.heap.size L ∧ h = h0
theorem ef_cal2_0 (m : MethodId) (t : Addr) : entryFrame m #[(.ref t), (.int 2)] 2 = mkF m 0 #[vr t, vi 2] [] := by first | (simp [entryFrame, mkF, argsToLocals, Value.category, vi, vj, vr]; done) | rfl
set_option maxRecDepth 65536 in
set_option maxHeartbeats 40000000 in
theorem rm_cal2_0 (l : Launch) {Z : State} {a0 : Array Value} (hD : Wd Z a0) (t : Addr) (k : ClassId) (us : List Value) {h0 : Heap} (O0 : Ext Z.heap h0) (V_t : Arv Z h0 t k .byte (2 : Int32) us (.int 0)) :
    Con l Z (⟨"java/lang/StringUTF16", "coderFromArrayLen", "([BI)B"⟩ : MethodName) jdk_52_method_15_code 2 (some .byte) [] ({ frames := 0, cells := 0, slots := 0, locals := 0 } : Room) #[(.ref t), (.int 2)] h0 (Q_cal2_0 Z t k us h0) := by
  refine Con.walk (plainFor_of_name pn_4) ?_
  intro p e s m below meth c T0 X0 hx hZ hby hml hown hnm hret hlk e0
  obtain ⟨hw, ⟨cz, S_CS, hcz⟩, ⟨sf, S_SF, hsf⟩, S_AD, S_HI, S_LO⟩ := id hD
  have N0 := Fr.nil Z.heap.size
  refine OEnds.cast (ef_cal2_0 m t) ?_
  refine OEnds.st (S' := T0.setTop (mkF m 2 #[vr t, vi 2] [(.ref t), (.int 2)])) (fun _ k => ?_) ?_
  · refine XS.iloadN X0.here hx rfl (hb hby d_jdk_52_15_0) rfl ?_
    refine XS.aloadN X0.here hx rfl (hb hby d_jdk_52_15_1) rfl rfl ?_
    exact k
  obtain ⟨cl_t_1, Ar_t_1, q_t_1, S_t_1, N_t_1, H_t_1, G_t_1⟩ := id V_t
  refine OEnds.st (S' := T0.setTop (mkF m 3 #[vr t, vi 2] [(.int 2), (.int 2)])) (fun tg kq9 => X0.arraylength hx (by rw [e0]; exact Ar_t_1.1) (State.isArrayOf_alike hZ.alike Ar_t_1.2.1) (g := (mkF m 2 #[vr t, vi 2] [(.ref t), (.int 2)])) rfl rfl (hb hby d_jdk_52_15_2) tg (by rw [len_of S_t_1 N_t_1]; exact kq9)) ?_
  refine OEnds.st (S' := T0.setTop (mkF m 8 #[vr t, vi 2] [(.int 0)])) (fun _ k => ?_) ?_
  · refine XS.isub X0.here hx rfl (hb hby d_jdk_52_15_3) rfl ?_
    refine XS.bipush X0.here hx rfl (hb hby d_jdk_52_15_4) ?_
    refine XS.iushr X0.here hx rfl (hb hby d_jdk_52_15_6) rfl ?_
    refine XS.i2b X0.here hx rfl (hb hby d_jdk_52_15_7) rfl ?_
    exact k
  exact OEnds.ret X0 hx hret hlk (by decide) (Or.inl ⟨rfl, by simp, _, rfl⟩) (hb hby d_jdk_52_15_8) (by decide) (by decide) (by rw [e0]; exact ⟨rfl, N0, rfl⟩)
-- java/lang/StringUTF16.coderFromArrayLen:([BI)B
def Q_cal2_1 (Z : State) (t : Addr) (k : ClassId) (us : List Value) (h0 : Heap) (v : Option Value) (h : Heap) (L : List Loc) : Prop := v = some (.int 1) ∧ Fr Z.heap.size L ∧ h = h0
theorem ef_cal2_1 (m : MethodId) (t : Addr) : entryFrame m #[(.ref t), (.int 2)] 2 = mkF m 0 #[vr t, vi 2] [] := by first | (simp [entryFrame, mkF, argsToLocals, Value.category, vi, vj, vr]; done) | rfl
set_option maxRecDepth 65536 in
set_option maxHeartbeats 40000000 in
theorem rm_cal2_1 (l : Launch) {Z : State} {a0 : Array Value} (hD : Wd Z a0) (t : Addr) (k : ClassId) (us : List Value) {h0 : Heap} (O0 : Ext Z.heap h0) (V_t : Arv Z h0 t k .byte (4 : Int32) us (.int 0)) :
    Con l Z (⟨"java/lang/StringUTF16", "coderFromArrayLen", "([BI)B"⟩ : MethodName) jdk_52_method_15_code 2 (some .byte) [] ({ frames := 0, cells := 0, slots := 0, locals := 0 } : Room) #[(.ref t), (.int 2)] h0 (Q_cal2_1 Z t k us h0) := by
  refine Con.walk (plainFor_of_name pn_4) ?_
  intro p e s m below meth c T0 X0 hx hZ hby hml hown hnm hret hlk e0
  obtain ⟨hw, ⟨cz, S_CS, hcz⟩, ⟨sf, S_SF, hsf⟩, S_AD, S_HI, S_LO⟩ := id hD
  have N0 := Fr.nil Z.heap.size
  refine OEnds.cast (ef_cal2_1 m t) ?_
  refine OEnds.st (S' := T0.setTop (mkF m 2 #[vr t, vi 2] [(.ref t), (.int 2)])) (fun _ k => ?_) ?_
  · refine XS.iloadN X0.here hx rfl (hb hby d_jdk_52_15_0) rfl ?_
    refine XS.aloadN X0.here hx rfl (hb hby d_jdk_52_15_1) rfl rfl ?_
    exact k
  obtain ⟨cl_t_1, Ar_t_1, q_t_1, S_t_1, N_t_1, H_t_1, G_t_1⟩ := id V_t
  refine OEnds.st (S' := T0.setTop (mkF m 3 #[vr t, vi 2] [(.int 4), (.int 2)])) (fun tg kq9 => X0.arraylength hx (by rw [e0]; exact Ar_t_1.1) (State.isArrayOf_alike hZ.alike Ar_t_1.2.1) (g := (mkF m 2 #[vr t, vi 2] [(.ref t), (.int 2)])) rfl rfl (hb hby d_jdk_52_15_2) tg (by rw [len_of S_t_1 N_t_1]; exact kq9)) ?_
  refine OEnds.st (S' := T0.setTop (mkF m 8 #[vr t, vi 2] [(.int 1)])) (fun _ k => ?_) ?_
  · refine XS.isub X0.here hx rfl (hb hby d_jdk_52_15_3) rfl ?_
    refine XS.bipush X0.here hx rfl (hb hby d_jdk_52_15_4) ?_
    refine XS.iushr X0.here hx rfl (hb hby d_jdk_52_15_6) rfl ?_
    refine XS.i2b X0.here hx rfl (hb hby d_jdk_52_15_7) rfl ?_
    exact k
  exact OEnds.ret X0 hx hret hlk (by decide) (Or.inl ⟨rfl, by simp, _, rfl⟩) (hb hby d_jdk_52_15_8) (by decide) (by decide) (by rw [e0]; exact ⟨rfl, N0, rfl⟩)
-- java/lang/String.<init>:([CIILjava/lang/Void;)V
def Q_strI2_2 (Z : State) (a : Addr) (tc : Addr) (kc : ClassId) (x0 x1 : Int32) (h0 : Heap) (v : Option Value) (h : Heap) (L : List Loc) : Prop := v = none ∧ Fr Z.heap.size L ∧ Keep h0 h [a] ∧ Exa Z h a "java/lang/String" ∧ ∃ (t : Addr) (k : ClassId), Fld Z h a "java/lang/String" "value" "[B" (.ref t) ∧ (((¬ (255 : Int32) < x0 ∧ ¬ (255 : Int32) < x1) ∧ Fld Z h a "java/lang/String" "coder" "B" (.int 0) ∧ Arv Z h t k .byte (2 : Int32) [(.int (x0.toInt8.toInt32)), (.int (x1.toInt8.toInt32))] (.int 0)) ∨ (Fld Z h a "java/lang/String" "coder" "B" (.int 1) ∧ Arv Z h t k .byte (4 : Int32) [(.int (x0.toInt8.toInt32)), (.int ((x0 >>> ((8 : Int32) &&& 31)).toInt8.toInt32)), (.int (x1.toInt8.toInt32)), (.int ((x1 >>> ((8 : Int32) &&& 31)).toInt8.toInt32))] (.int 0)))
theorem ef_strI2_2 (m : MethodId) (a : Addr) (tc : Addr) : entryFrame m #[(.ref a), (.ref tc), (.int 0), (.int 2), .null] 6 = mkF m 0 #[vr a, vr tc, vi 0, vi 2, .val .null, .unset] [] := by first | (simp [entryFrame, mkF, argsToLocals, Value.category, vi, vj, vr]; done) | rfl
set_option maxRecDepth 65536 in
set_option maxHeartbeats 40000000 in
theorem rm_strI2_2 (l : Launch) {Z : State} {a0 : Array Value} (hD : Wd Z a0) (a : Addr) (tc : Addr) (kc : ClassId) (x0 x1 : Int32) {h0 : Heap} (O0 : Ext Z.heap h0) (E_a : Exa Z h0 a "java/lang/String") (F_value_a : Fld Z h0 a "java/lang/String" "value" "[B" .null) (F_coder_a : Fld Z h0 a "java/lang/String" "coder" "B" (.int 0)) (ge_a : Z.heap.size ≤ a) (V_tc : Arv Z h0 tc kc .char (2 : Int32) [(.int x0), (.int x1)] (.int 0)) (hx0 : ¬ x0 < 0 ∧ ¬ (65535 : Int32) < x0) (hx1 : ¬ x1 < 0 ∧ ¬ (65535 : Int32) < x1) :
    Con l Z (⟨"java/lang/String", "<init>", "([CIILjava/lang/Void;)V"⟩ : MethodName) jdk_42_method_149_code 6 none [] ({ frames := 4, cells := 2, slots := 6, locals := 57 } : Room) #[(.ref a), (.ref tc), (.int 0), (.int 2), .null] h0 (Q_strI2_2 Z a tc kc x0 x1 h0) := by
  refine Con.walk (plainFor_of_name pn_1) ?_
  intro p e s m below meth c T0 X0 hx hZ hby hml hown hnm hret hlk e0
  obtain ⟨hw, ⟨cz, S_CS, hcz⟩, ⟨sf, S_SF, hsf⟩, S_AD, S_HI, S_LO⟩ := id hD
  have N0 := Fr.nil Z.heap.size
  have K0 : Keep h0 h0 [a] := Keep.refl _ _
  have E_a0 := E_a
  refine OEnds.cast (ef_strI2_2 m a tc) ?_
  refine OEnds.st (S' := T0.setTop (mkF m 1 #[vr a, vr tc, vi 0, vi 2, .val .null, .unset] [(.ref a)])) (fun _ k => ?_) ?_
  · refine XS.aloadN X0.here hx rfl (hb hby d_jdk_42_149_0) rfl rfl ?_
    exact k
  obtain ⟨T1, X1, e1, st1⟩ := initO X0 hx hZ hown (wq hw 16 rfl) (wq hw 17 rfl) (wq hw 18 rfl) e0 (g := (mkF m 1 #[vr a, vr tc, vi 0, vi 2, .val .null, .unset] [(.ref a)])) rfl (by rw [hml]; rfl) rfl (hb hby d_jdk_42_149_1) (by decide) (W := 0) (by show 2 * 0 + _ ≤ _; exact Nat.le_of_eq rfl) (by decide)
  refine OEnds.st st1 ?_
  refine OEnds.st (S' := T1.setTop (mkF m 27 #[vr a, vr tc, vi 0, vi 2, .val .null, .unset] [])) (fun _ k => ?_) ?_
  · refine XS.iloadN X1.here hx rfl (hb hby d_jdk_42_149_4) rfl ?_
    refine XS.ifYes X1.here hx rfl (pc0 := 5) (pc' := 27) rfl (hb hby d_jdk_42_149_5) rfl ((if0 _ _).trans (feq (by decide)).2) (by decide) (by decide) ?_
    exact k
  obtain ⟨T2, X2, e2, st2⟩ := getS2 X1 hx hZ hown (host := "") (Or.inl (wq hw 19 rfl)) Via.refl e1 (S_CS.ext O0) (g := (mkF m 27 #[vr a, vr tc, vi 0, vi 2, .val .null, .unset] [])) rfl (hb hby d_jdk_42_149_27)
  refine OEnds.st st2 ?_
  refine OEnds.st (S' := T2.setTop (mkF m 36 #[vr a, vr tc, vi 0, vi 2, .val .null, .unset] [(.int 2), (.int 0), (.ref tc)])) (fun _ k => ?_) ?_
  · refine XS.ifNo X2.here hx rfl (hb hby d_jdk_42_149_30) rfl ((if0 _ _).trans (feq hcz).1) ?_
    refine XS.aloadN X2.here hx rfl (hb hby d_jdk_42_149_33) rfl rfl ?_
    refine XS.iloadN X2.here hx rfl (hb hby d_jdk_42_149_34) rfl ?_
    refine XS.iloadN X2.here hx rfl (hb hby d_jdk_42_149_35) rfl ?_
    exact k
  obtain ⟨_, T3, h3, L3, X3, e3, hQ3, st3⟩ := callC X2 hx hZ hown (wq hw 20 rfl) (wq hw 21 rfl) (wq hw 22 rfl) (wq hw 23 rfl) (by decide) (kc := 2) (ks := 6) (Con.sb (W := 0) (rm_comp3_2 l hD tc kc x0 x1 O0 V_tc hx0 hx1) hZ (wq hw 23 rfl) (wq hw 22 rfl) (by decide) (by decide)) e2 (g := (mkF m 36 #[vr a, vr tc, vi 0, vi 2, .val .null, .unset] [(.int 2), (.int 0), (.ref tc)])) rfl (by rw [hml]; rfl) (argsL := [(.ref tc), (.int 0), (.int 2)]) (rest := []) (lenOf pd_5 rfl) rfl (by show 2 * 0 + _ ≤ _; exact Nat.le_of_eq rfl) (hb hby d_jdk_42_149_36) (by decide) (by decide)
  obtain ⟨t3, k3, rfl, Nq3, Kq3, szq3, hd3⟩ := hQ3
  refine OEnds.st st3 ?_
  replace N0 := Fr.app N0 Nq3
  have ne_a_t3 : a ≠ t3 := Nat.ne_of_lt (Nat.lt_of_lt_of_le E_a.lt szq3)
  have ne_tc_t3 : tc ≠ t3 := Nat.ne_of_lt (Nat.lt_of_lt_of_le V_tc.lt szq3)
  have ge_t3 : Z.heap.size ≤ t3 := Nat.le_trans O0.1 szq3
  have sz_t3 : h0.size ≤ t3 := Nat.le_trans K0.1 szq3
  replace E_a := E_a.keep Kq3
  replace F_value_a := F_value_a.keep Kq3 nin0
  replace F_coder_a := F_coder_a.keep Kq3 nin0
  replace V_tc := V_tc.keep Kq3 nin0
  replace O0 : Ext Z.heap h3 := ext_keep O0 Kq3 all0
  replace K0 : Keep h0 h3 [a] := K0.trans Kq3 all0
  rcases hd3 with ⟨g0, g1, Vt⟩ | Vt
  · refine OEnds.st (S' := T3.setTop (mkF m 45 #[vr a, vr tc, vi 0, vi 2, .val .null, vr t3] [(.int 2), (.ref t3), (.ref a)])) (fun _ k => ?_) ?_
    · refine XS.astore X3.here hx rfl (hb hby d_jdk_42_149_39) rfl rfl (l' := #[vr a, vr tc, vi 0, vi 2, .val .null, vr t3]) rfl ?_
      refine XS.aloadN X3.here hx rfl (hb hby d_jdk_42_149_41) rfl rfl ?_
      refine XS.aload X3.here hx rfl (hb hby d_jdk_42_149_42) rfl rfl ?_
      refine XS.iloadN X3.here hx rfl (hb hby d_jdk_42_149_44) rfl ?_
      exact k
    obtain ⟨_, T4, h4, L4, X4, e4, hQ4, st4⟩ := callC X3 hx hZ hown (wq hw 28 rfl) (wq hw 29 rfl) (wq hw 22 rfl) (wq hw 30 rfl) (by decide) (kc := 0) (ks := 0) (Con.sb (W := 1) (rm_cal2_0 l hD t3 k3 [(.int (x0.toInt8.toInt32)), (.int (x1.toInt8.toInt32))] O0 Vt) hZ (wq hw 30 rfl) (wq hw 22 rfl) (by decide) (by decide)) e3 (g := (mkF m 45 #[vr a, vr tc, vi 0, vi 2, .val .null, vr t3] [(.int 2), (.ref t3), (.ref a)])) rfl (by rw [hml]; rfl) (argsL := [(.ref t3), (.int 2)]) (rest := [(.ref a)]) (lenOf pd_7 rfl) rfl (by show 2 * 0 + _ ≤ _; exact Nat.le_of_eq rfl) (hb hby d_jdk_42_149_45) (by decide) (by decide)
    obtain ⟨rfl, Nq4, Hq4⟩ := hQ4
    refine OEnds.st st4 ?_
    replace N0 := Fr.app N0 Nq4
    replace e4 := e4.trans Hq4
    have ne_tc_a : tc ≠ a := Ne.symm (ne_arv E_a (wq hw 7 rfl) V_tc)
    obtain ⟨T5, h5, X5, e5, W5, st5⟩ := putF X4 hx hZ hown (host := "") (Or.inl (wq hw 31 rfl)) Via.refl e4 F_coder_a E_a (Or.inr ⟨(wq hw 32 rfl), rfl, hnm⟩) (wq hw 7 rfl) (ty := .byte) (by decide) rfl rfl (g := (mkF m 48 #[vr a, vr tc, vi 0, vi 2, .val .null, vr t3] [(.int 0), (.ref a)])) rfl rfl (hb hby d_jdk_42_149_48)
    refine OEnds.st st5 ?_
    replace E_a := E_a.wr W5
    replace F_value_a := F_value_a.other W5 (Or.inr (slot_ne (Or.inr (wq hw 34 rfl)) (Or.inr (wq hw 32 rfl)) (by decide) (t := (.array .byte)) (t' := .byte) (by decide) (by decide)))
    replace F_coder_a := F_coder_a.same W5
    replace V_tc := V_tc.other W5 ne_tc_a
    replace Vt := Vt.other W5 (Ne.symm (Nat.ne_of_lt (Nat.lt_of_lt_of_le E_a0.lt szq3)))
    replace O0 : Ext Z.heap h5 := ext_wr O0 W5 ge_a
    replace N0 := Fr.snoc X5 N0 ge_a
    replace K0 : Keep h0 h5 [a] := K0.wr W5 (Or.inl (List.mem_of_getElem? (i := 0) rfl))
    refine OEnds.st (S' := T5.setTop (mkF m 54 #[vr a, vr tc, vi 0, vi 2, .val .null, vr t3] [(.ref t3), (.ref a)])) (fun _ k => ?_) ?_
    · refine XS.aloadN X5.here hx rfl (hb hby d_jdk_42_149_51) rfl rfl ?_
      refine XS.aload X5.here hx rfl (hb hby d_jdk_42_149_52) rfl rfl ?_
      exact k
    obtain ⟨T6, h6, X6, e6, W6, st6⟩ := putF X5 hx hZ hown (host := "") (Or.inl (wq hw 33 rfl)) Via.refl e5 F_value_a E_a (Or.inr ⟨(wq hw 34 rfl), rfl, hnm⟩) (wq hw 7 rfl) (ty := (.array .byte)) (by decide) rfl rfl (g := (mkF m 54 #[vr a, vr tc, vi 0, vi 2, .val .null, vr t3] [(.ref t3), (.ref a)])) rfl rfl (hb hby d_jdk_42_149_54)
    refine OEnds.st st6 ?_
    replace E_a := E_a.wr W6
    replace F_value_a := F_value_a.same W6
    replace F_coder_a := F_coder_a.other W6 (Or.inr (slot_ne (Or.inr (wq hw 32 rfl)) (Or.inr (wq hw 34 rfl)) (by decide) (t := .byte) (t' := (.array .byte)) (by decide) (by decide)))
    replace V_tc := V_tc.other W6 ne_tc_a
    replace Vt := Vt.other W6 (Ne.symm (Nat.ne_of_lt (Nat.lt_of_lt_of_le E_a0.lt szq3)))
    replace O0 : Ext Z.heap h6 := ext_wr O0 W6 ge_a
    replace N0 := Fr.snoc X6 N0 ge_a
    replace K0 : Keep h0 h6 [a] := K0.wr W6 (Or.inl (List.mem_of_getElem? (i := 0) rfl))
    exact OEnds.retV X6 hx hret hlk (hb hby d_jdk_42_149_57) (by decide) (by decide) (by rw [e6]; exact ⟨rfl, N0, K0, E_a, t3, _, F_value_a, Or.inl ⟨⟨g0, g1⟩, F_coder_a, Vt⟩⟩)
  · refine OEnds.st (S' := T3.setTop (mkF m 45 #[vr a, vr tc, vi 0, vi 2, .val .null, vr t3] [(.int 2), (.ref t3), (.ref a)])) (fun _ k => ?_) ?_
    · refine XS.astore X3.here hx rfl (hb hby d_jdk_42_149_39) rfl rfl (l' := #[vr a, vr tc, vi 0, vi 2, .val .null, vr t3]) rfl ?_
      refine XS.aloadN X3.here hx rfl (hb hby d_jdk_42_149_41) rfl rfl ?_
      refine XS.aload X3.here hx rfl (hb hby d_jdk_42_149_42) rfl rfl ?_
      refine XS.iloadN X3.here hx rfl (hb hby d_jdk_42_149_44) rfl ?_
      exact k
    obtain ⟨_, T4, h4, L4, X4, e4, hQ4, st4⟩ := callC X3 hx hZ hown (wq hw 28 rfl) (wq hw 29 rfl) (wq hw 22 rfl) (wq hw 30 rfl) (by decide) (kc := 0) (ks := 0) (Con.sb (W := 1) (rm_cal2_1 l hD t3 k3 [(.int (x0.toInt8.toInt32)), (.int ((x0 >>> ((8 : Int32) &&& 31)).toInt8.toInt32)), (.int (x1.toInt8.toInt32)), (.int ((x1 >>> ((8 : Int32) &&& 31)).toInt8.toInt32))] O0 Vt) hZ (wq hw 30 rfl) (wq hw 22 rfl) (by decide) (by decide)) e3 (g := (mkF m 45 #[vr a, vr tc, vi 0, vi 2, .val .null, vr t3] [(.int 2), (.ref t3), (.ref a)])) rfl (by rw [hml]; rfl) (argsL := [(.ref t3), (.int 2)]) (rest := [(.ref a)]) (lenOf pd_7 rfl) rfl (by show 2 * 0 + _ ≤ _; exact Nat.le_of_eq rfl) (hb hby d_jdk_42_149_45) (by decide) (by decide)
    obtain ⟨rfl, Nq4, Hq4⟩ := hQ4
    refine OEnds.st st4 ?_
    replace N0 := Fr.app N0 Nq4
    replace e4 := e4.trans Hq4
    have ne_tc_a : tc ≠ a := Ne.symm (ne_arv E_a (wq hw 7 rfl) V_tc)
    obtain ⟨T5, h5, X5, e5, W5, st5⟩ := putF X4 hx hZ hown (host := "") (Or.inl (wq hw 31 rfl)) Via.refl e4 F_coder_a E_a (Or.inr ⟨(wq hw 32 rfl), rfl, hnm⟩) (wq hw 7 rfl) (ty := .byte) (by decide) rfl rfl (g := (mkF m 48 #[vr a, vr tc, vi 0, vi 2, .val .null, vr t3] [(.int 1), (.ref a)])) rfl rfl (hb hby d_jdk_42_149_48)
    refine OEnds.st st5 ?_
    replace E_a := E_a.wr W5
    replace F_value_a := F_value_a.other W5 (Or.inr (slot_ne (Or.inr (wq hw 34 rfl)) (Or.inr (wq hw 32 rfl)) (by decide) (t := (.array .byte)) (t' := .byte) (by decide) (by decide)))
    replace F_coder_a := F_coder_a.same W5
    replace V_tc := V_tc.other W5 ne_tc_a
    replace Vt := Vt.other W5 (Ne.symm (Nat.ne_of_lt (Nat.lt_of_lt_of_le E_a0.lt szq3)))
    replace O0 : Ext Z.heap h5 := ext_wr O0 W5 ge_a
    replace N0 := Fr.snoc X5 N0 ge_a
    replace K0 : Keep h0 h5 [a] := K0.wr W5 (Or.inl (List.mem_of_getElem? (i := 0) rfl))
    refine OEnds.st (S' := T5.setTop (mkF m 54 #[vr a, vr tc, vi 0, vi 2, .val .null, vr t3] [(.ref t3), (.ref a)])) (fun _ k => ?_) ?_
    · refine XS.aloadN X5.here hx rfl (hb hby d_jdk_42_149_51) rfl rfl ?_
      refine XS.aload X5.here hx rfl (hb hby d_jdk_42_149_52) rfl rfl ?_
      exact k
    obtain ⟨T6, h6, X6, e6, W6, st6⟩ := putF X5 hx hZ hown (host := "") (Or.inl (wq hw 33 rfl)) Via.refl e5 F_value_a E_a (Or.inr ⟨(wq hw 34 rfl), rfl, hnm⟩) (wq hw 7 rfl) (ty := (.array .byte)) (by decide) rfl rfl (g := (mkF m 54 #[vr a, vr tc, vi 0, vi 2, .val .null, vr t3] [(.ref t3), (.ref a)])) rfl rfl (hb hby d_jdk_42_149_54)
    refine OEnds.st st6 ?_
    replace E_a := E_a.wr W6
    replace F_value_a := F_value_a.same W6
    replace F_coder_a := F_coder_a.other W6 (Or.inr (slot_ne (Or.inr (wq hw 32 rfl)) (Or.inr (wq hw 34 rfl)) (by decide) (t := .byte) (t' := (.array .byte)) (by decide) (by decide)))
    replace V_tc := V_tc.other W6 ne_tc_a
    replace Vt := Vt.other W6 (Ne.symm (Nat.ne_of_lt (Nat.lt_of_lt_of_le E_a0.lt szq3)))
    replace O0 : Ext Z.heap h6 := ext_wr O0 W6 ge_a
    replace N0 := Fr.snoc X6 N0 ge_a
    replace K0 : Keep h0 h6 [a] := K0.wr W6 (Or.inl (List.mem_of_getElem? (i := 0) rfl))
    exact OEnds.retV X6 hx hret hlk (hb hby d_jdk_42_149_57) (by decide) (by decide) (by rw [e6]; exact ⟨rfl, N0, K0, E_a, t3, _, F_value_a, Or.inr ⟨F_coder_a, Vt⟩⟩)
-- java/lang/String.<init>:([C)V
def Q_strI1_2 (Z : State) (a : Addr) (tc : Addr) (kc : ClassId) (x0 x1 : Int32) (h0 : Heap) (v : Option Value) (h : Heap) (L : List Loc) : Prop := v = none ∧ Fr Z.heap.size L ∧ Keep h0 h [a] ∧ Exa Z h a "java/lang/String" ∧ ∃ (t : Addr) (k : ClassId), Fld Z h a "java/lang/String" "value" "[B" (.ref t) ∧ (((¬ (255 : Int32) < x0 ∧ ¬ (255 : Int32) < x1) ∧ Fld Z h a "java/lang/String" "coder" "B" (.int 0) ∧ Arv Z h t k .byte (2 : Int32) [(.int (x0.toInt8.toInt32)), (.int (x1.toInt8.toInt32))] (.int 0)) ∨ (Fld Z h a "java/lang/String" "coder" "B" (.int 1) ∧ Arv Z h t k .byte (4 : Int32) [(.int (x0.toInt8.toInt32)), (.int ((x0 >>> ((8 : Int32) &&& 31)).toInt8.toInt32)), (.int (x1.toInt8.toInt32)), (.int ((x1 >>> ((8 : Int32) &&& 31)).toInt8.toInt32))] (.int 0)))
theorem ef_strI1_2 (m : MethodId) (a : Addr) (tc : Addr) : entryFrame m #[(.ref a), (.ref tc)] 2 = mkF m 0 #[vr a, vr tc] [] := by first | (simp [entryFrame, mkF, argsToLocals, Value.category, vi, vj, vr]; done) | rfl
set_option maxRecDepth 65536 in
set_option maxHeartbeats 40000000 in
theorem rm_strI1_2 (l : Launch) {Z : State} {a0 : Array Value} (hD : Wd Z a0) (a : Addr) (tc : Addr) (kc : ClassId) (x0 x1 : Int32) {h0 : Heap} (O0 : Ext Z.heap h0) (E_a : Exa Z h0 a "java/lang/String") (F_value_a : Fld Z h0 a "java/lang/String" "value" "[B" .null) (F_coder_a : Fld Z h0 a "java/lang/String" "coder" "B" (.int 0)) (ge_a : Z.heap.size ≤ a) (V_tc : Arv Z h0 tc kc .char (2 : Int32) [(.int x0), (.int x1)] (.int 0)) (hx0 : ¬ x0 < 0 ∧ ¬ (65535 : Int32) < x0) (hx1 : ¬ x1 < 0 ∧ ¬ (65535 : Int32) < x1) :
    Con l Z (⟨"java/lang/String", "<init>", "([C)V"⟩ : MethodName) jdk_42_method_3_code 2 none [] ({ frames := 5, cells := 2, slots := 6, locals := 74 } : Room) #[(.ref a), (.ref tc)] h0 (Q_strI1_2 Z a tc kc x0 x1 h0) := by
  refine Con.walk (plainFor_of_name pn_1) ?_
  intro p e s m below meth c T0 X0 hx hZ hby hml hown hnm hret hlk e0
  obtain ⟨hw, ⟨cz, S_CS, hcz⟩, ⟨sf, S_SF, hsf⟩, S_AD, S_HI, S_LO⟩ := id hD
  have N0 := Fr.nil Z.heap.size
  have K0 : Keep h0 h0 [a] := Keep.refl _ _
  refine OEnds.cast (ef_strI1_2 m a tc) ?_
  refine OEnds.st (S' := T0.setTop (mkF m 4 #[vr a, vr tc] [(.ref tc), (.int 0), (.ref tc), (.ref a)])) (fun _ k => ?_) ?_
  · refine XS.aloadN X0.here hx rfl (hb hby d_jdk_42_3_0) rfl rfl ?_
    refine XS.aloadN X0.here hx rfl (hb hby d_jdk_42_3_1) rfl rfl ?_
    refine XS.iconst X0.here hx rfl (hb hby d_jdk_42_3_2) ?_
    refine XS.aloadN X0.here hx rfl (hb hby d_jdk_42_3_3) rfl rfl ?_
    exact k
  obtain ⟨cl_tc_1, Ar_tc_1, q_tc_1, S_tc_1, N_tc_1, H_tc_1, G_tc_1⟩ := id V_tc
  refine OEnds.st (S' := T0.setTop (mkF m 5 #[vr a, vr tc] [(.int 2), (.int 0), (.ref tc), (.ref a)])) (fun tg kq9 => X0.arraylength hx (by rw [e0]; exact Ar_tc_1.1) (State.isArrayOf_alike hZ.alike Ar_tc_1.2.1) (g := (mkF m 4 #[vr a, vr tc] [(.ref tc), (.int 0), (.ref tc), (.ref a)])) rfl rfl (hb hby d_jdk_42_3_4) tg (by rw [len_of S_tc_1 N_tc_1]; exact kq9)) ?_
  refine OEnds.st (S' := T0.setTop (mkF m 6 #[vr a, vr tc] [.null, (.int 2), (.int 0), (.ref tc), (.ref a)])) (fun _ k => ?_) ?_
  · refine XS.aconstNull X0.here hx rfl (hb hby d_jdk_42_3_5) ?_
    exact k
  obtain ⟨_, T2, h2, L2, X2, e2, hQ2, st2⟩ := specC X0 hx hZ rfl hown (wq hw 12 rfl) (wq hw 13 rfl) (wq hw 15 rfl) (by decide) (kc := 2) (ks := 6) (Con.sb (W := 0) (rm_strI2_2 l hD a tc kc x0 x1 O0 E_a F_value_a F_coder_a ge_a V_tc hx0 hx1) hZ (wq hw 15 rfl) (wq hw 8 rfl) (by decide) (by decide)) e0 (a := a) (g := (mkF m 6 #[vr a, vr tc] [.null, (.int 2), (.int 0), (.ref tc), (.ref a)])) rfl (by rw [hml]; rfl) (argsL := [(.ref tc), (.int 0), (.int 2), .null]) (rest := []) (lenOf pd_8 rfl) rfl (by show 2 * 0 + _ ≤ _; exact Nat.le_of_eq rfl) (hb hby d_jdk_42_3_6) (by decide) (by decide)
  obtain ⟨rfl, Nq2, Kq2, R2⟩ := hQ2
  refine OEnds.st st2 ?_
  replace N0 := Fr.app N0 Nq2
  have ne_tc_a : tc ≠ a := Ne.symm (ne_arv E_a (wq hw 7 rfl) V_tc)
  replace E_a := E_a.keep Kq2
  replace V_tc := V_tc.keep Kq2 (ninS ne_tc_a nin0)
  replace O0 : Ext Z.heap h2 := ext_keep O0 Kq2 (allS ge_a all0)
  replace K0 : Keep h0 h2 [a] := K0.trans Kq2 (allS (Or.inl (List.mem_of_getElem? (i := 0) rfl)) all0)
  exact OEnds.retV X2 hx hret hlk (hb hby d_jdk_42_3_9) (by decide) (by decide) (by rw [e2]; exact ⟨rfl, N0, K0, R2⟩)
-- java/lang/StringUTF16.compress:([CI[BII)I
def Q_comp2_3 (Z : State) (tc : Addr) (t : Addr) (kc k : ClassId) (x0 x1 x2 : Int32) (h0 : Heap) (v : Option Value) (h : Heap) (L : List Loc) : Prop := ∃ r : Int32, v = some (.int r) ∧ Fr Z.heap.size L ∧ Keep h0 h [t] ∧ ((r = 3 ∧ ¬ (255 : Int32) < x0 ∧ ¬ (255 : Int32) < x1 ∧ ¬ (255 : Int32) < x2 ∧ Arv Z h t k .byte (3 : Int32) [(.int (x0.toInt8.toInt32)), (.int (x1.toInt8.toInt32)), (.int (x2.toInt8.toInt32))] (.int 0)) ∨ (r = 0 ∧ (255 : Int32) < x0) ∨ (r = 1 ∧ (255 : Int32) < x1) ∨ (r = 2 ∧ (255 : Int32) < x2))
theorem ef_comp2_3 (m : MethodId) (tc : Addr) (t : Addr) : entryFrame m #[(.ref tc), (.int 0), (.ref t), (.int 0), (.int 3)] 7 = mkF m 0 #[vr tc, vi 0, vr t, vi 0, vi 3, .unset, .unset] [] := by first | (simp [entryFrame, mkF, argsToLocals, Value.category, vi, vj, vr]; done) | rfl
set_option maxRecDepth 65536 in
set_option maxHeartbeats 40000000 in
theorem rm_comp2_3 (l : Launch) {Z : State} {a0 : Array Value} (hD : Wd Z a0) (tc : Addr) (t : Addr) (kc k : ClassId) (x0 x1 x2 : Int32) {h0 : Heap} (O0 : Ext Z.heap h0) (V_tc : Arv Z h0 tc kc .char (3 : Int32) [(.int x0), (.int x1), (.int x2)] (.int 0)) (V_t : Arv Z h0 t k .byte (3 : Int32) [(.int 0), (.int 0), (.int 0)] (.int 0)) (ge_t : Z.heap.size ≤ t) (ne_tc_t : tc ≠ t) :
    Con l Z (⟨"java/lang/StringUTF16", "compress", "([CI[BII)I"⟩ : MethodName) jdk_52_method_21_code 7 (some .int) [] ({ frames := 0, cells := 0, slots := 0, locals := 0 } : Room) #[(.ref tc), (.int 0), (.ref t), (.int 0), (.int 3)] h0 (Q_comp2_3 Z tc t kc k x0 x1 x2 h0) := by
  refine Con.walk (plainFor_of_name pn_4) ?_
  intro p e s m below meth c T0 X0 hx hZ hby hml hown hnm hret hlk e0
  obtain ⟨hw, ⟨cz, S_CS, hcz⟩, ⟨sf, S_SF, hsf⟩, S_AD, S_HI, S_LO⟩ := id hD
  have N0 := Fr.nil Z.heap.size
  have K0 : Keep h0 h0 [t] := Keep.refl _ _
  refine OEnds.cast (ef_comp2_3 m tc t) ?_
  refine OEnds.st (S' := T0.setTop (mkF m 3 #[vr tc, vi 0, vr t, vi 0, vi 3, vi 0, .unset] [])) (fun _ k => ?_) ?_
  · refine XS.iconst X0.here hx rfl (hb hby d_jdk_52_21_0) ?_
    refine XS.istore X0.here hx rfl (hb hby d_jdk_52_21_1) rfl (l' := #[vr tc, vi 0, vr t, vi 0, vi 3, vi 0, .unset]) rfl ?_
    exact k
  refine OEnds.st (S' := T0.setTop (mkF m 12 #[vr tc, vi 0, vr t, vi 0, vi 3, vi 0, .unset] [(.int 0), (.ref tc)])) (fun _ k => ?_) ?_
  · refine XS.iload X0.here hx rfl (hb hby d_jdk_52_21_3) rfl ?_
    refine XS.iload X0.here hx rfl (hb hby d_jdk_52_21_5) rfl ?_
    refine XS.icmpNo X0.here hx rfl (hb hby d_jdk_52_21_7) rfl (tlt (by decide)).2.1 ?_
    refine XS.aloadN X0.here hx rfl (hb hby d_jdk_52_21_10) rfl rfl ?_
    show Steps p.tables e below (T0.setTop (mkF m 11 #[vr tc, vi 0, vr t, vi 0, vi 3, vi 0, .unset] [(.ref tc)])) _
    refine XS.iloadN X0.here hx rfl (hb hby d_jdk_52_21_11) rfl ?_
    exact k
  obtain ⟨cl_tc_1, Ar_tc_1, q_tc_1, S_tc_1, N_tc_1, H_tc_1, G_tc_1⟩ := id V_tc
  refine OEnds.st (S' := T0.setTop (mkF m 13 #[vr tc, vi 0, vr t, vi 0, vi 3, vi 0, .unset] [(.int x0)])) (X0.caload hx (j := (0 : Int32)) (v := (.int x0)) (by rw [e0]; exact Ar_tc_1.1) (State.isArrayOf_alike hZ.alike Ar_tc_1.2.1) Ar_tc_1.2.2 (inb_of S_tc_1 ⟨by decide, by decide⟩) (H_tc_1.at (inb_of S_tc_1 ⟨by decide, by decide⟩) rfl) (g := (mkF m 12 #[vr tc, vi 0, vr t, vi 0, vi 3, vi 0, .unset] [(.int 0), (.ref tc)])) rfl rfl (hb hby d_jdk_52_21_12)) ?_
  refine OEnds.st (S' := T0.setTop (mkF m 20 #[vr tc, vi 0, vr t, vi 0, vi 3, vi 0, vi x0] [(.int 255), (.int x0)])) (fun _ k => ?_) ?_
  · refine XS.istore X0.here hx rfl (hb hby d_jdk_52_21_13) rfl (l' := #[vr tc, vi 0, vr t, vi 0, vi 3, vi 0, vi x0]) rfl ?_
    refine XS.iload X0.here hx rfl (hb hby d_jdk_52_21_15) rfl ?_
    refine XS.sipush X0.here hx rfl (hb hby d_jdk_52_21_17) ?_
    exact k
  rcases Classical.em ((255 : Int32) < x0) with g0 | g0
  · refine OEnds.st (S' := T0.setTop (mkF m 25 #[vr tc, vi 0, vr t, vi 0, vi 3, vi 0, vi x0] [(.int 0)])) (fun _ k => ?_) ?_
    · refine XS.icmpNo X0.here hx rfl (hb hby d_jdk_52_21_20) rfl (tlt g0).2.2.2 ?_
      refine XS.iload X0.here hx rfl (hb hby d_jdk_52_21_23) rfl ?_
      exact k
    exact OEnds.ret X0 hx hret hlk rfl (Or.inl ⟨rfl, by simp, _, rfl⟩) (hb hby d_jdk_52_21_25) (by decide) (by decide) (by rw [e0]; exact ⟨_, rfl, N0, K0, Or.inr (Or.inl ⟨rfl, g0⟩)⟩)
  · refine OEnds.st (S' := T0.setTop (mkF m 31 #[vr tc, vi 0, vr t, vi 0, vi 3, vi 0, vi x0] [(.int (x0.toInt8.toInt32)), (.int 0), (.ref t)])) (fun _ k => ?_) ?_
    · refine XS.icmpYes X0.here hx rfl (pc0 := 20) (pc' := 26) rfl (hb hby d_jdk_52_21_20) rfl (flt g0).2.2.2 (by decide) (by decide) ?_
      refine XS.aloadN X0.here hx rfl (hb hby d_jdk_52_21_26) rfl rfl ?_
      refine XS.iloadN X0.here hx rfl (hb hby d_jdk_52_21_27) rfl ?_
      refine XS.iload X0.here hx rfl (hb hby d_jdk_52_21_28) rfl ?_
      show Steps p.tables e below (T0.setTop (mkF m 30 #[vr tc, vi 0, vr t, vi 0, vi 3, vi 0, vi x0] [(.int x0), (.int 0), (.ref t)])) _
      refine XS.i2b X0.here hx rfl (hb hby d_jdk_52_21_30) rfl ?_
      exact k
    obtain ⟨cl_t_2, Ar_t_2, q_t_2, S_t_2, N_t_2, H_t_2, G_t_2⟩ := V_t
    obtain ⟨T2, h2, X2, e2, W2, st2⟩ := stB X0 hx hZ e0 Ar_t_2 (j := (0 : Int32)) (inb_of S_t_2 ⟨by decide, by decide⟩) (g := (mkF m 31 #[vr tc, vi 0, vr t, vi 0, vi 3, vi 0, vi x0] [(.int (x0.toInt8.toInt32)), (.int 0), (.ref t)])) rfl rfl (hb hby d_jdk_52_21_31)
    have V_t_2 : Arv Z h2 t k .byte (3 : Int32) [(.int (nar .byte (x0.toInt8.toInt32))), (.int 0), (.int 0)] (.int 0) := Arv.set Ar_t_2 q_t_2 S_t_2 N_t_2 H_t_2 G_t_2 (fits_nar_byte _) W2 0 rfl (Nat.le_of_ble_eq_true rfl)
    refine OEnds.st st2 ?_
    replace V_tc := V_tc.other W2 ne_tc_t
    replace O0 : Ext Z.heap h2 := ext_wr O0 W2 ge_t
    replace N0 := Fr.snoc X2 N0 ge_t
    replace K0 : Keep h0 h2 [t] := K0.wr W2 (Or.inl (List.mem_of_getElem? (i := 0) rfl))
    refine OEnds.st (S' := T2.setTop (mkF m 3 #[vr tc, vi 1, vr t, vi 1, vi 3, vi 1, vi x0] [])) (fun _ k => ?_) ?_
    · refine XS.iinc X2.here hx rfl (hb hby d_jdk_52_21_32) rfl (l' := #[vr tc, vi 1, vr t, vi 0, vi 3, vi 0, vi x0]) rfl ?_
      refine XS.iinc X2.here hx rfl (hb hby d_jdk_52_21_35) rfl (l' := #[vr tc, vi 1, vr t, vi 1, vi 3, vi 0, vi x0]) rfl ?_
      refine XS.iinc X2.here hx rfl (hb hby d_jdk_52_21_38) rfl (l' := #[vr tc, vi 1, vr t, vi 1, vi 3, vi 1, vi x0]) rfl ?_
      refine XS.goto X2.here hx rfl (pc0 := 41) (pc' := 3) rfl (hb hby d_jdk_52_21_41) (by decide) (by decide) ?_
      exact k
    refine OEnds.st (S' := T2.setTop (mkF m 12 #[vr tc, vi 1, vr t, vi 1, vi 3, vi 1, vi x0] [(.int 1), (.ref tc)])) (fun _ k => ?_) ?_
    · refine XS.iload X2.here hx rfl (hb hby d_jdk_52_21_3) rfl ?_
      refine XS.iload X2.here hx rfl (hb hby d_jdk_52_21_5) rfl ?_
      refine XS.icmpNo X2.here hx rfl (hb hby d_jdk_52_21_7) rfl (tlt (by decide)).2.1 ?_
      refine XS.aloadN X2.here hx rfl (hb hby d_jdk_52_21_10) rfl rfl ?_
      show Steps p.tables e below (T2.setTop (mkF m 11 #[vr tc, vi 1, vr t, vi 1, vi 3, vi 1, vi x0] [(.ref tc)])) _
      refine XS.iloadN X2.here hx rfl (hb hby d_jdk_52_21_11) rfl ?_
      exact k
    obtain ⟨cl_tc_3, Ar_tc_3, q_tc_3, S_tc_3, N_tc_3, H_tc_3, G_tc_3⟩ := id V_tc
    refine OEnds.st (S' := T2.setTop (mkF m 13 #[vr tc, vi 1, vr t, vi 1, vi 3, vi 1, vi x0] [(.int x1)])) (X2.caload hx (j := (1 : Int32)) (v := (.int x1)) (by rw [e2]; exact Ar_tc_3.1) (State.isArrayOf_alike hZ.alike Ar_tc_3.2.1) Ar_tc_3.2.2 (inb_of S_tc_3 ⟨by decide, by decide⟩) (H_tc_3.at (inb_of S_tc_3 ⟨by decide, by decide⟩) rfl) (g := (mkF m 12 #[vr tc, vi 1, vr t, vi 1, vi 3, vi 1, vi x0] [(.int 1), (.ref tc)])) rfl rfl (hb hby d_jdk_52_21_12)) ?_
    refine OEnds.st (S' := T2.setTop (mkF m 20 #[vr tc, vi 1, vr t, vi 1, vi 3, vi 1, vi x1] [(.int 255), (.int x1)])) (fun _ k => ?_) ?_
    · refine XS.istore X2.here hx rfl (hb hby d_jdk_52_21_13) rfl (l' := #[vr tc, vi 1, vr t, vi 1, vi 3, vi 1, vi x1]) rfl ?_
      refine XS.iload X2.here hx rfl (hb hby d_jdk_52_21_15) rfl ?_
      refine XS.sipush X2.here hx rfl (hb hby d_jdk_52_21_17) ?_
      exact k
    rcases Classical.em ((255 : Int32) < x1) with g1 | g1
    · refine OEnds.st (S' := T2.setTop (mkF m 25 #[vr tc, vi 1, vr t, vi 1, vi 3, vi 1, vi x1] [(.int 1)])) (fun _ k => ?_) ?_
      · refine XS.icmpNo X2.here hx rfl (hb hby d_jdk_52_21_20) rfl (tlt g1).2.2.2 ?_
        refine XS.iload X2.here hx rfl (hb hby d_jdk_52_21_23) rfl ?_
        exact k
      exact OEnds.ret X2 hx hret hlk rfl (Or.inl ⟨rfl, by simp, _, rfl⟩) (hb hby d_jdk_52_21_25) (by decide) (by decide) (by rw [e2]; exact ⟨_, rfl, N0, K0, Or.inr (Or.inr (Or.inl ⟨rfl, g1⟩))⟩)
    · refine OEnds.st (S' := T2.setTop (mkF m 31 #[vr tc, vi 1, vr t, vi 1, vi 3, vi 1, vi x1] [(.int (x1.toInt8.toInt32)), (.int 1), (.ref t)])) (fun _ k => ?_) ?_
      · refine XS.icmpYes X2.here hx rfl (pc0 := 20) (pc' := 26) rfl (hb hby d_jdk_52_21_20) rfl (flt g1).2.2.2 (by decide) (by decide) ?_
        refine XS.aloadN X2.here hx rfl (hb hby d_jdk_52_21_26) rfl rfl ?_
        refine XS.iloadN X2.here hx rfl (hb hby d_jdk_52_21_27) rfl ?_
        refine XS.iload X2.here hx rfl (hb hby d_jdk_52_21_28) rfl ?_
        show Steps p.tables e below (T2.setTop (mkF m 30 #[vr tc, vi 1, vr t, vi 1, vi 3, vi 1, vi x1] [(.int x1), (.int 1), (.ref t)])) _
        refine XS.i2b X2.here hx rfl (hb hby d_jdk_52_21_30) rfl ?_
        exact k
      obtain ⟨cl_t_4, Ar_t_4, q_t_4, S_t_4, N_t_4, H_t_4, G_t_4⟩ := V_t_2
      obtain ⟨T4, h4, X4, e4, W4, st4⟩ := stB X2 hx hZ e2 Ar_t_4 (j := (1 : Int32)) (inb_of S_t_4 ⟨by decide, by decide⟩) (g := (mkF m 31 #[vr tc, vi 1, vr t, vi 1, vi 3, vi 1, vi x1] [(.int (x1.toInt8.toInt32)), (.int 1), (.ref t)])) rfl rfl (hb hby d_jdk_52_21_31)
      have V_t_4 : Arv Z h4 t k .byte (3 : Int32) [(.int (nar .byte (x0.toInt8.toInt32))), (.int (nar .byte (x1.toInt8.toInt32))), (.int 0)] (.int 0) := Arv.set Ar_t_4 q_t_4 S_t_4 N_t_4 H_t_4 G_t_4 (fits_nar_byte _) W4 1 rfl (Nat.le_of_ble_eq_true rfl)
      refine OEnds.st st4 ?_
      replace V_tc := V_tc.other W4 ne_tc_t
      replace O0 : Ext Z.heap h4 := ext_wr O0 W4 ge_t
      replace N0 := Fr.snoc X4 N0 ge_t
      replace K0 : Keep h0 h4 [t] := K0.wr W4 (Or.inl (List.mem_of_getElem? (i := 0) rfl))
      refine OEnds.st (S' := T4.setTop (mkF m 3 #[vr tc, vi 2, vr t, vi 2, vi 3, vi 2, vi x1] [])) (fun _ k => ?_) ?_
      · refine XS.iinc X4.here hx rfl (hb hby d_jdk_52_21_32) rfl (l' := #[vr tc, vi 2, vr t, vi 1, vi 3, vi 1, vi x1]) rfl ?_
        refine XS.iinc X4.here hx rfl (hb hby d_jdk_52_21_35) rfl (l' := #[vr tc, vi 2, vr t, vi 2, vi 3, vi 1, vi x1]) rfl ?_
        refine XS.iinc X4.here hx rfl (hb hby d_jdk_52_21_38) rfl (l' := #[vr tc, vi 2, vr t, vi 2, vi 3, vi 2, vi x1]) rfl ?_
        refine XS.goto X4.here hx rfl (pc0 := 41) (pc' := 3) rfl (hb hby d_jdk_52_21_41) (by decide) (by decide) ?_
        exact k
      refine OEnds.st (S' := T4.setTop (mkF m 12 #[vr tc, vi 2, vr t, vi 2, vi 3, vi 2, vi x1] [(.int 2), (.ref tc)])) (fun _ k => ?_) ?_
      · refine XS.iload X4.here hx rfl (hb hby d_jdk_52_21_3) rfl ?_
        refine XS.iload X4.here hx rfl (hb hby d_jdk_52_21_5) rfl ?_
        refine XS.icmpNo X4.here hx rfl (hb hby d_jdk_52_21_7) rfl (tlt (by decide)).2.1 ?_
        refine XS.aloadN X4.here hx rfl (hb hby d_jdk_52_21_10) rfl rfl ?_
        show Steps p.tables e below (T4.setTop (mkF m 11 #[vr tc, vi 2, vr t, vi 2, vi 3, vi 2, vi x1] [(.ref tc)])) _
        refine XS.iloadN X4.here hx rfl (hb hby d_jdk_52_21_11) rfl ?_
        exact k
      obtain ⟨cl_tc_5, Ar_tc_5, q_tc_5, S_tc_5, N_tc_5, H_tc_5, G_tc_5⟩ := id V_tc
      refine OEnds.st (S' := T4.setTop (mkF m 13 #[vr tc, vi 2, vr t, vi 2, vi 3, vi 2, vi x1] [(.int x2)])) (X4.caload hx (j := (2 : Int32)) (v := (.int x2)) (by rw [e4]; exact Ar_tc_5.1) (State.isArrayOf_alike hZ.alike Ar_tc_5.2.1) Ar_tc_5.2.2 (inb_of S_tc_5 ⟨by decide, by decide⟩) (H_tc_5.at (inb_of S_tc_5 ⟨by decide, by decide⟩) rfl) (g := (mkF m 12 #[vr tc, vi 2, vr t, vi 2, vi 3, vi 2, vi x1] [(.int 2), (.ref tc)])) rfl rfl (hb hby d_jdk_52_21_12)) ?_
      refine OEnds.st (S' := T4.setTop (mkF m 20 #[vr tc, vi 2, vr t, vi 2, vi 3, vi 2, vi x2] [(.int 255), (.int x2)])) (fun _ k => ?_) ?_
      · refine XS.istore X4.here hx rfl (hb hby d_jdk_52_21_13) rfl (l' := #[vr tc, vi 2, vr t, vi 2, vi 3, vi 2, vi x2]) rfl ?_
        refine XS.iload X4.here hx rfl (hb hby d_jdk_52_21_15) rfl ?_
        refine XS.sipush X4.here hx rfl (hb hby d_jdk_52_21_17) ?_
        exact k
      rcases Classical.em ((255 : Int32) < x2) with g2 | g2
      · refine OEnds.st (S' := T4.setTop (mkF m 25 #[vr tc, vi 2, vr t, vi 2, vi 3, vi 2, vi x2] [(.int 2)])) (fun _ k => ?_) ?_
        · refine XS.icmpNo X4.here hx rfl (hb hby d_jdk_52_21_20) rfl (tlt g2).2.2.2 ?_
          refine XS.iload X4.here hx rfl (hb hby d_jdk_52_21_23) rfl ?_
          exact k
        exact OEnds.ret X4 hx hret hlk rfl (Or.inl ⟨rfl, by simp, _, rfl⟩) (hb hby d_jdk_52_21_25) (by decide) (by decide) (by rw [e4]; exact ⟨_, rfl, N0, K0, Or.inr (Or.inr (Or.inr (⟨rfl, g2⟩)))⟩)
      · refine OEnds.st (S' := T4.setTop (mkF m 31 #[vr tc, vi 2, vr t, vi 2, vi 3, vi 2, vi x2] [(.int (x2.toInt8.toInt32)), (.int 2), (.ref t)])) (fun _ k => ?_) ?_
        · refine XS.icmpYes X4.here hx rfl (pc0 := 20) (pc' := 26) rfl (hb hby d_jdk_52_21_20) rfl (flt g2).2.2.2 (by decide) (by decide) ?_
          refine XS.aloadN X4.here hx rfl (hb hby d_jdk_52_21_26) rfl rfl ?_
          refine XS.iloadN X4.here hx rfl (hb hby d_jdk_52_21_27) rfl ?_
          refine XS.iload X4.here hx rfl (hb hby d_jdk_52_21_28) rfl ?_
          show Steps p.tables e below (T4.setTop (mkF m 30 #[vr tc, vi 2, vr t, vi 2, vi 3, vi 2, vi x2] [(.int x2), (.int 2), (.ref t)])) _
          refine XS.i2b X4.here hx rfl (hb hby d_jdk_52_21_30) rfl ?_
          exact k
        obtain ⟨cl_t_6, Ar_t_6, q_t_6, S_t_6, N_t_6, H_t_6, G_t_6⟩ := V_t_4
        obtain ⟨T6, h6, X6, e6, W6, st6⟩ := stB X4 hx hZ e4 Ar_t_6 (j := (2 : Int32)) (inb_of S_t_6 ⟨by decide, by decide⟩) (g := (mkF m 31 #[vr tc, vi 2, vr t, vi 2, vi 3, vi 2, vi x2] [(.int (x2.toInt8.toInt32)), (.int 2), (.ref t)])) rfl rfl (hb hby d_jdk_52_21_31)
        have V_t_6 : Arv Z h6 t k .byte (3 : Int32) [(.int (nar .byte (x0.toInt8.toInt32))), (.int (nar .byte (x1.toInt8.toInt32))), (.int (nar .byte (x2.toInt8.toInt32)))] (.int 0) := Arv.set Ar_t_6 q_t_6 S_t_6 N_t_6 H_t_6 G_t_6 (fits_nar_byte _) W6 2 rfl (Nat.le_of_ble_eq_true rfl)
        refine OEnds.st st6 ?_
        replace V_tc := V_tc.other W6 ne_tc_t
        replace O0 : Ext Z.heap h6 := ext_wr O0 W6 ge_t
        replace N0 := Fr.snoc X6 N0 ge_t
        replace K0 : Keep h0 h6 [t] := K0.wr W6 (Or.inl (List.mem_of_getElem? (i := 0) rfl))
        refine OEnds.st (S' := T6.setTop (mkF m 3 #[vr tc, vi 3, vr t, vi 3, vi 3, vi 3, vi x2] [])) (fun _ k => ?_) ?_
        · refine XS.iinc X6.here hx rfl (hb hby d_jdk_52_21_32) rfl (l' := #[vr tc, vi 3, vr t, vi 2, vi 3, vi 2, vi x2]) rfl ?_
          refine XS.iinc X6.here hx rfl (hb hby d_jdk_52_21_35) rfl (l' := #[vr tc, vi 3, vr t, vi 3, vi 3, vi 2, vi x2]) rfl ?_
          refine XS.iinc X6.here hx rfl (hb hby d_jdk_52_21_38) rfl (l' := #[vr tc, vi 3, vr t, vi 3, vi 3, vi 3, vi x2]) rfl ?_
          refine XS.goto X6.here hx rfl (pc0 := 41) (pc' := 3) rfl (hb hby d_jdk_52_21_41) (by decide) (by decide) ?_
          exact k
        refine OEnds.st (S' := T6.setTop (mkF m 46 #[vr tc, vi 3, vr t, vi 3, vi 3, vi 3, vi x2] [(.int 3)])) (fun _ k => ?_) ?_
        · refine XS.iload X6.here hx rfl (hb hby d_jdk_52_21_3) rfl ?_
          refine XS.iload X6.here hx rfl (hb hby d_jdk_52_21_5) rfl ?_
          refine XS.icmpYes X6.here hx rfl (pc0 := 7) (pc' := 44) rfl (hb hby d_jdk_52_21_7) rfl (flt (by decide)).2.1 (by decide) (by decide) ?_
          refine XS.iload X6.here hx rfl (hb hby d_jdk_52_21_44) rfl ?_
          exact k
        simp only [nar_b8] at V_t_6
        exact OEnds.ret X6 hx hret hlk rfl (Or.inl ⟨rfl, by simp, _, rfl⟩) (hb hby d_jdk_52_21_46) (by decide) (by decide) (by rw [e6]; exact ⟨_, rfl, N0, K0, Or.inl ⟨rfl, g0, g1, g2, V_t_6⟩⟩)
-- java/lang/StringUTF16.newBytesLength:(I)I
def Q_nbLen3 (Z : State)  (h0 : Heap) (v : Option Value) (h : Heap) (L : List Loc) : Prop := v = some (.int 6) ∧ Fr Z.heap.size L ∧ h = h0
theorem ef_nbLen3 (m : MethodId)  : entryFrame m #[(.int 3)] 1 = mkF m 0 #[vi 3] [] := by first | (simp [entryFrame, mkF, argsToLocals, Value.category, vi, vj, vr]; done) | rfl
set_option maxRecDepth 65536 in
set_option maxHeartbeats 40000000 in
theorem rm_nbLen3 (l : Launch) {Z : State} {a0 : Array Value} (hD : Wd Z a0)  {h0 : Heap} (O0 : Ext Z.heap h0) :
    Con l Z (⟨"java/lang/StringUTF16", "newBytesLength", "(I)I"⟩ : MethodName) jdk_52_method_3_code 1 (some .int) [] ({ frames := 0, cells := 0, slots := 0, locals := 0 } : Room) #[(.int 3)] h0 (Q_nbLen3 Z  h0) := by
  refine Con.walk (plainFor_of_name pn_4) ?_
  intro p e s m below meth c T0 X0 hx hZ hby hml hown hnm hret hlk e0
  obtain ⟨hw, ⟨cz, S_CS, hcz⟩, ⟨sf, S_SF, hsf⟩, S_AD, S_HI, S_LO⟩ := id hD
  have N0 := Fr.nil Z.heap.size
  refine OEnds.cast (ef_nbLen3 m ) ?_
  refine OEnds.st (S' := T0.setTop (mkF m 58 #[vi 3] [(.int 6)])) (fun _ k => ?_) ?_
  · refine XS.iloadN X0.here hx rfl (hb hby d_jdk_52_3_0) rfl ?_
    refine XS.ifYes X0.here hx rfl (pc0 := 1) (pc' := 12) rfl (hb hby d_jdk_52_3_1) rfl ((if0 _ _).trans (flt (by decide)).2.1) (by decide) (by decide) ?_
    refine XS.iloadN X0.here hx rfl (hb hby d_jdk_52_3_12) rfl ?_
    refine X0.ldcInt hx hown (mvT hZ (wq hw 94 rfl)) (g := (mkF m 13 #[vi 3] [(.int 3)])) rfl (hb hby d_jdk_52_3_13) _ ?_
    show Steps p.tables e below (T0.setTop (mkF m 15 #[vi 3] [(.int 1073741823), (.int 3)])) _
    refine XS.icmpYes X0.here hx rfl (pc0 := 15) (pc' := 55) rfl (hb hby d_jdk_52_3_15) rfl (tlt (by decide)).1 (by decide) (by decide) ?_
    refine XS.iloadN X0.here hx rfl (hb hby d_jdk_52_3_55) rfl ?_
    refine XS.iconst X0.here hx rfl (hb hby d_jdk_52_3_56) ?_
    refine XS.ishl X0.here hx rfl (hb hby d_jdk_52_3_57) rfl ?_
    exact k
  exact OEnds.ret X0 hx hret hlk rfl (Or.inl ⟨rfl, by simp, _, rfl⟩) (hb hby d_jdk_52_3_58) (by decide) (by decide) (by rw [e0]; exact ⟨rfl, N0, rfl⟩)
-- java/lang/StringUTF16.newBytesFor:(I)[B
def Q_nbFor3 (Z : State)  (h0 : Heap) (v : Option Value) (h : Heap) (L : List Loc) : Prop := ∃ (t : Addr) (k : ClassId), v = some (.ref t) ∧ Fr Z.heap.size L ∧ Keep h0 h [] ∧ h0.size ≤ t ∧ Arv Z h t k .byte (6 : Int32) [(.int 0), (.int 0), (.int 0), (.int 0), (.int 0), (.int 0)] (.int 0)
theorem ef_nbFor3 (m : MethodId)  : entryFrame m #[(.int 3)] 1 = mkF m 0 #[vi 3] [] := by first | (simp [entryFrame, mkF, argsToLocals, Value.category, vi, vj, vr]; done) | rfl
set_option maxRecDepth 65536 in
set_option maxHeartbeats 40000000 in
theorem rm_nbFor3 (l : Launch) {Z : State} {a0 : Array Value} (hD : Wd Z a0)  {h0 : Heap} (O0 : Ext Z.heap h0) :
    Con l Z (⟨"java/lang/StringUTF16", "newBytesFor", "(I)[B"⟩ : MethodName) jdk_52_method_2_code 1 (some (.array .byte)) [] ({ frames := 1, cells := 1, slots := 6, locals := 12 } : Room) #[(.int 3)] h0 (Q_nbFor3 Z  h0) := by
  refine Con.walk (plainFor_of_name pn_4) ?_
  intro p e s m below meth c T0 X0 hx hZ hby hml hown hnm hret hlk e0
  obtain ⟨hw, ⟨cz, S_CS, hcz⟩, ⟨sf, S_SF, hsf⟩, S_AD, S_HI, S_LO⟩ := id hD
  have N0 := Fr.nil Z.heap.size
  have K0 : Keep h0 h0 [] := Keep.refl _ _
  refine OEnds.cast (ef_nbFor3 m ) ?_
  refine OEnds.st (S' := T0.setTop (mkF m 1 #[vi 3] [(.int 3)])) (fun _ k => ?_) ?_
  · refine XS.iloadN X0.here hx rfl (hb hby d_jdk_52_2_0) rfl ?_
    exact k
  obtain ⟨_, T1, h1, L1, X1, e1, hQ1, st1⟩ := callC X0 hx hZ hown (wq hw 91 rfl) (wq hw 92 rfl) (wq hw 22 rfl) (wq hw 93 rfl) (by decide) (kc := 0) (ks := 0) (Con.sb (W := 0) (rm_nbLen3 l hD  O0) hZ (wq hw 93 rfl) (wq hw 22 rfl) (by decide) (by decide)) e0 (g := (mkF m 1 #[vi 3] [(.int 3)])) rfl (by rw [hml]; rfl) (argsL := [(.int 3)]) (rest := []) (lenOf pd_1 rfl) rfl (by show 2 * 0 + _ ≤ _; exact Nat.le_of_eq rfl) (hb hby d_jdk_52_2_1) (by decide) (by decide)
  obtain ⟨rfl, Nq1, Hq1⟩ := hQ1
  refine OEnds.st st1 ?_
  replace N0 := Fr.app N0 Nq1
  replace e1 := e1.trans Hq1
  obtain ⟨T2, h2, k2, X2, e2, E2, A2, st2⟩ := newP X1 hx hZ (wq hw 24 rfl) e1 (g := (mkF m 4 #[vi 3] [(.int 6)])) rfl (hb hby d_jdk_52_2_4) rfl (by decide) (cap := 6) (by decide) (by decide) (by decide) (by decide)
  obtain ⟨b2, g2⟩ : ∃ z, z = h0.size := ⟨_, rfl⟩
  rw [← g2] at A2 st2
  refine OEnds.st st2 ?_
  have ge_b2 : Z.heap.size ≤ b2 := Nat.le_trans O0.1 (Nat.le_of_eq g2.symm)
  have sz_b2 : h0.size ≤ b2 := Nat.le_trans K0.1 (Nat.le_of_eq g2.symm)
  replace O0 : Ext Z.heap h2 := ext_trans O0 E2
  replace K0 : Keep h0 h2 [] := K0.ext E2
  have V_b2 : Arv Z h2 b2 k2 .byte (6 : Int32) [(.int 0), (.int 0), (.int 0), (.int 0), (.int 0), (.int 0)] (.int 0) := (Arv.new A2 (by decide)).pad (pad_rep [] (.int 0) 6)
  exact OEnds.ret X2 hx hret hlk rfl (Or.inr (Or.inr (Or.inr (Or.inr ⟨rfl, rfl, rfl⟩)))) (hb hby d_jdk_52_2_6) (by decide) (by decide) (by rw [e2]; exact ⟨b2, _, rfl, N0, K0, sz_b2, V_b2⟩)
-- java/lang/StringUTF16.putChar:([BII)V
def Q_putC3_0 (Z : State) (t : Addr) (x0 : Int32) (k : ClassId)  (h0 : Heap) (v : Option Value) (h : Heap) (L : List Loc) : Prop := v = none ∧ Fr Z.heap.size L ∧ Keep h0 h [t] ∧ Arv Z h t k .byte (6 : Int32) [(.int (x0.toInt8.toInt32)), (.int ((x0 >>> ((8 : Int32) &&& 31)).toInt8.toInt32)), (.int 0), (.int 0), (.int 0), (.int 0)] (.int 0)
theorem ef_putC3_0 (m : MethodId) (t : Addr) (x0 : Int32) : entryFrame m #[(.ref t), (.int 0), (.int x0)] 3 = mkF m 0 #[vr t, vi 0, vi x0] [] := by first | (simp [entryFrame, mkF, argsToLocals, Value.category, vi, vj, vr]; done) | rfl
set_option maxRecDepth 65536 in
set_option maxHeartbeats 40000000 in
theorem rm_putC3_0 (l : Launch) {Z : State} {a0 : Array Value} (hD : Wd Z a0) (t : Addr) (x0 : Int32) (k : ClassId)  {h0 : Heap} (O0 : Ext Z.heap h0) (V_t : Arv Z h0 t k .byte (6 : Int32) [(.int 0), (.int 0), (.int 0), (.int 0), (.int 0), (.int 0)] (.int 0)) (ge_t : Z.heap.size ≤ t) :
    Con l Z (⟨"java/lang/StringUTF16", "putChar", "([BII)V"⟩ : MethodName) jdk_52_method_4_code 3 none [] ({ frames := 0, cells := 0, slots := 0, locals := 0 } : Room) #[(.ref t), (.int 0), (.int x0)] h0 (Q_putC3_0 Z t x0 k h0) := by
  refine Con.walk (plainFor_of_name pn_4) ?_
  intro p e s m below meth c T0 X0 hx hZ hby hml hown hnm hret hlk e0
  obtain ⟨hw, ⟨cz, S_CS, hcz⟩, ⟨sf, S_SF, hsf⟩, S_AD, S_HI, S_LO⟩ := id hD
  have N0 := Fr.nil Z.heap.size
  have K0 : Keep h0 h0 [t] := Keep.refl _ _
  refine OEnds.cast (ef_putC3_0 m t x0) ?_
  obtain ⟨T1, X1, e1, st1⟩ := getS2 X0 hx hZ hown (host := "") (Or.inl (wq hw 98 rfl)) Via.refl e0 (S_AD.ext O0) (g := (mkF m 0 #[vr t, vi 0, vi x0] [])) rfl (hb hby d_jdk_52_4_0)
  refine OEnds.st st1 ?_
  refine OEnds.st (S' := T1.setTop (mkF m 38 #[vr t, vi 1, vi x0] [(.int x0), (.int 0), (.ref t)])) (fun _ k => ?_) ?_
  · refine XS.ifYes X1.here hx rfl (pc0 := 3) (pc' := 28) rfl (hb hby d_jdk_52_4_3) rfl ((if0 _ _).trans (feq (by decide)).2) (by decide) (by decide) ?_
    refine XS.iloadN X1.here hx rfl (hb hby d_jdk_52_4_28) rfl ?_
    refine XS.iconst X1.here hx rfl (hb hby d_jdk_52_4_29) ?_
    refine XS.ishl X1.here hx rfl (hb hby d_jdk_52_4_30) rfl ?_
    show Steps p.tables e below (T1.setTop (mkF m 31 #[vr t, vi 0, vi x0] [(.int 0)])) _
    refine XS.istoreN X1.here hx rfl (hb hby d_jdk_52_4_31) rfl (l' := #[vr t, vi 0, vi x0]) rfl ?_
    refine XS.aloadN X1.here hx rfl (hb hby d_jdk_52_4_32) rfl rfl ?_
    refine XS.iloadN X1.here hx rfl (hb hby d_jdk_52_4_33) rfl ?_
    refine XS.iinc X1.here hx rfl (hb hby d_jdk_52_4_34) rfl (l' := #[vr t, vi 1, vi x0]) rfl ?_
    show Steps p.tables e below (T1.setTop (mkF m 37 #[vr t, vi 1, vi x0] [(.int 0), (.ref t)])) _
    refine XS.iloadN X1.here hx rfl (hb hby d_jdk_52_4_37) rfl ?_
    exact k
  obtain ⟨T2, X2, e2, st2⟩ := getS2 X1 hx hZ hown (host := "") (Or.inl (wq hw 99 rfl)) Via.refl e1 (S_HI.ext O0) (g := (mkF m 38 #[vr t, vi 1, vi x0] [(.int x0), (.int 0), (.ref t)])) rfl (hb hby d_jdk_52_4_38)
  refine OEnds.st st2 ?_
  refine OEnds.st (S' := T2.setTop (mkF m 43 #[vr t, vi 1, vi x0] [(.int (x0.toInt8.toInt32)), (.int 0), (.ref t)])) (fun _ k => ?_) ?_
  · refine XS.ishr X2.here hx rfl (hb hby d_jdk_52_4_41) rfl ?_
    rw [shr0 x0]
    refine XS.i2b X2.here hx rfl (hb hby d_jdk_52_4_42) rfl ?_
    exact k
  obtain ⟨cl_t_3, Ar_t_3, q_t_3, S_t_3, N_t_3, H_t_3, G_t_3⟩ := V_t
  obtain ⟨T3, h3, X3, e3, W3, st3⟩ := stB X2 hx hZ e2 Ar_t_3 (j := (0 : Int32)) (inb_of S_t_3 ⟨by decide, by decide⟩) (g := (mkF m 43 #[vr t, vi 1, vi x0] [(.int (x0.toInt8.toInt32)), (.int 0), (.ref t)])) rfl rfl (hb hby d_jdk_52_4_43)
  have V_t_3 : Arv Z h3 t k .byte (6 : Int32) [(.int (nar .byte (x0.toInt8.toInt32))), (.int 0), (.int 0), (.int 0), (.int 0), (.int 0)] (.int 0) := Arv.set Ar_t_3 q_t_3 S_t_3 N_t_3 H_t_3 G_t_3 (fits_nar_byte _) W3 0 rfl (Nat.le_of_ble_eq_true rfl)
  refine OEnds.st st3 ?_
  replace O0 : Ext Z.heap h3 := ext_wr O0 W3 ge_t
  replace N0 := Fr.snoc X3 N0 ge_t
  replace K0 : Keep h0 h3 [t] := K0.wr W3 (Or.inl (List.mem_of_getElem? (i := 0) rfl))
  refine OEnds.st (S' := T3.setTop (mkF m 47 #[vr t, vi 1, vi x0] [(.int x0), (.int 1), (.ref t)])) (fun _ k => ?_) ?_
  · refine XS.aloadN X3.here hx rfl (hb hby d_jdk_52_4_44) rfl rfl ?_
    refine XS.iloadN X3.here hx rfl (hb hby d_jdk_52_4_45) rfl ?_
    refine XS.iloadN X3.here hx rfl (hb hby d_jdk_52_4_46) rfl ?_
    exact k
  obtain ⟨T4, X4, e4, st4⟩ := getS2 X3 hx hZ hown (host := "") (Or.inl (wq hw 100 rfl)) Via.refl e3 (S_LO.ext O0) (g := (mkF m 47 #[vr t, vi 1, vi x0] [(.int x0), (.int 1), (.ref t)])) rfl (hb hby d_jdk_52_4_47)
  refine OEnds.st st4 ?_
  refine OEnds.st (S' := T4.setTop (mkF m 52 #[vr t, vi 1, vi x0] [(.int ((x0 >>> ((8 : Int32) &&& 31)).toInt8.toInt32)), (.int 1), (.ref t)])) (fun _ k => ?_) ?_
  · refine XS.ishr X4.here hx rfl (hb hby d_jdk_52_4_50) rfl ?_
    refine XS.i2b X4.here hx rfl (hb hby d_jdk_52_4_51) rfl ?_
    exact k
  obtain ⟨cl_t_5, Ar_t_5, q_t_5, S_t_5, N_t_5, H_t_5, G_t_5⟩ := V_t_3
  obtain ⟨T5, h5, X5, e5, W5, st5⟩ := stB X4 hx hZ e4 Ar_t_5 (j := (1 : Int32)) (inb_of S_t_5 ⟨by decide, by decide⟩) (g := (mkF m 52 #[vr t, vi 1, vi x0] [(.int ((x0 >>> ((8 : Int32) &&& 31)).toInt8.toInt32)), (.int 1), (.ref t)])) rfl rfl (hb hby d_jdk_52_4_52)
  have V_t_5 : Arv Z h5 t k .byte (6 : Int32) [(.int (nar .byte (x0.toInt8.toInt32))), (.int (nar .byte ((x0 >>> ((8 : Int32) &&& 31)).toInt8.toInt32))), (.int 0), (.int 0), (.int 0), (.int 0)] (.int 0) := Arv.set Ar_t_5 q_t_5 S_t_5 N_t_5 H_t_5 G_t_5 (fits_nar_byte _) W5 1 rfl (Nat.le_of_ble_eq_true rfl)
  refine OEnds.st st5 ?_
  replace O0 : Ext Z.heap h5 := ext_wr O0 W5 ge_t
  replace N0 := Fr.snoc X5 N0 ge_t
  replace K0 : Keep h0 h5 [t] := K0.wr W5 (Or.inl (List.mem_of_getElem? (i := 0) rfl))
  simp only [nar_b8] at V_t_5
  exact OEnds.retV X5 hx hret hlk (hb hby d_jdk_52_4_53) (by decide) (by decide) (by rw [e5]; exact ⟨rfl, N0, K0, V_t_5⟩)
-- java/lang/StringUTF16.getChar:([BI)C
def Q_getC3_0 (Z : State) (t : Addr) (k : ClassId) (x0 x1 x2 : Int32) (h0 : Heap) (v : Option Value) (h : Heap) (L : List Loc) : Prop := v = some (.int x0) ∧ Fr Z.heap.size L ∧ h = h0
theorem ef_getC3_0 (m : MethodId) (t : Addr) : entryFrame m #[(.ref t), (.int 0)] 2 = mkF m 0 #[vr t, vi 0] [] := by first | (simp [entryFrame, mkF, argsToLocals, Value.category, vi, vj, vr]; done) | rfl
set_option maxRecDepth 65536 in
set_option maxHeartbeats 40000000 in
theorem rm_getC3_0 (l : Launch) {Z : State} {a0 : Array Value} (hD : Wd Z a0) (t : Addr) (k : ClassId) (x0 x1 x2 : Int32) {h0 : Heap} (O0 : Ext Z.heap h0) (V_t : Arv Z h0 t k .byte (6 : Int32) [(.int (x0.toInt8.toInt32)), (.int ((x0 >>> ((8 : Int32) &&& 31)).toInt8.toInt32)), (.int (x1.toInt8.toInt32)), (.int ((x1 >>> ((8 : Int32) &&& 31)).toInt8.toInt32)), (.int (x2.toInt8.toInt32)), (.int ((x2 >>> ((8 : Int32) &&& 31)).toInt8.toInt32))] (.int 0)) (hx0 : ¬ x0 < 0 ∧ ¬ (65535 : Int32) < x0) :
    Con l Z (⟨"java/lang/StringUTF16", "getChar", "([BI)C"⟩ : MethodName) jdk_52_method_5_code 2 (some .char) [] ({ frames := 0, cells := 0, slots := 0, locals := 0 } : Room) #[(.ref t), (.int 0)] h0 (Q_getC3_0 Z t k x0 x1 x2 h0) := by
  refine Con.walk (plainFor_of_name pn_4) ?_
  intro p e s m below meth c T0 X0 hx hZ hby hml hown hnm hret hlk e0
  obtain ⟨hw, ⟨cz, S_CS, hcz⟩, ⟨sf, S_SF, hsf⟩, S_AD, S_HI, S_LO⟩ := id hD
  have N0 := Fr.nil Z.heap.size
  refine OEnds.cast (ef_getC3_0 m t) ?_
  obtain ⟨T1, X1, e1, st1⟩ := getS2 X0 hx hZ hown (host := "") (Or.inl (wq hw 98 rfl)) Via.refl e0 (S_AD.ext O0) (g := (mkF m 0 #[vr t, vi 0] [])) rfl (hb hby d_jdk_52_5_0)
  refine OEnds.st st1 ?_
  refine OEnds.st (S' := T1.setTop (mkF m 37 #[vr t, vi 1] [(.int 0), (.ref t)])) (fun _ k => ?_) ?_
  · refine XS.ifYes X1.here hx rfl (pc0 := 3) (pc' := 28) rfl (hb hby d_jdk_52_5_3) rfl ((if0 _ _).trans (feq (by decide)).2) (by decide) (by decide) ?_
    refine XS.iloadN X1.here hx rfl (hb hby d_jdk_52_5_28) rfl ?_
    refine XS.iconst X1.here hx rfl (hb hby d_jdk_52_5_29) ?_
    refine XS.ishl X1.here hx rfl (hb hby d_jdk_52_5_30) rfl ?_
    show Steps p.tables e below (T1.setTop (mkF m 31 #[vr t, vi 0] [(.int 0)])) _
    refine XS.istoreN X1.here hx rfl (hb hby d_jdk_52_5_31) rfl (l' := #[vr t, vi 0]) rfl ?_
    refine XS.aloadN X1.here hx rfl (hb hby d_jdk_52_5_32) rfl rfl ?_
    refine XS.iloadN X1.here hx rfl (hb hby d_jdk_52_5_33) rfl ?_
    refine XS.iinc X1.here hx rfl (hb hby d_jdk_52_5_34) rfl (l' := #[vr t, vi 1]) rfl ?_
    exact k
  obtain ⟨cl_t_2, Ar_t_2, q_t_2, S_t_2, N_t_2, H_t_2, G_t_2⟩ := id V_t
  refine OEnds.st (S' := T1.setTop (mkF m 38 #[vr t, vi 1] [(.int (x0.toInt8.toInt32))])) (X1.baloadBytes hx (j := (0 : Int32)) (v := (.int (x0.toInt8.toInt32))) (by rw [e1]; exact Ar_t_2.1) (State.isArrayOf_alike hZ.alike Ar_t_2.2.1) Ar_t_2.2.2 (inb_of S_t_2 ⟨by decide, by decide⟩) (H_t_2.at (inb_of S_t_2 ⟨by decide, by decide⟩) rfl) (g := (mkF m 37 #[vr t, vi 1] [(.int 0), (.ref t)])) rfl rfl (hb hby d_jdk_52_5_37)) ?_
  refine OEnds.st (S' := T1.setTop (mkF m 42 #[vr t, vi 1] [(.int ((x0.toInt8.toInt32) &&& (255 : Int32)))])) (fun _ k => ?_) ?_
  · refine XS.sipush X1.here hx rfl (hb hby d_jdk_52_5_38) ?_
    refine XS.iand X1.here hx rfl (hb hby d_jdk_52_5_41) rfl ?_
    exact k
  obtain ⟨T3, X3, e3, st3⟩ := getS2 X1 hx hZ hown (host := "") (Or.inl (wq hw 99 rfl)) Via.refl e1 (S_HI.ext O0) (g := (mkF m 42 #[vr t, vi 1] [(.int ((x0.toInt8.toInt32) &&& (255 : Int32)))])) rfl (hb hby d_jdk_52_5_42)
  refine OEnds.st st3 ?_
  refine OEnds.st (S' := T3.setTop (mkF m 48 #[vr t, vi 1] [(.int 1), (.ref t), (.int ((x0.toInt8.toInt32) &&& (255 : Int32)))])) (fun _ k => ?_) ?_
  · refine XS.ishl X3.here hx rfl (hb hby d_jdk_52_5_45) rfl ?_
    rw [shl0 ((x0.toInt8.toInt32) &&& (255 : Int32))]
    refine XS.aloadN X3.here hx rfl (hb hby d_jdk_52_5_46) rfl rfl ?_
    refine XS.iloadN X3.here hx rfl (hb hby d_jdk_52_5_47) rfl ?_
    exact k
  obtain ⟨cl_t_4, Ar_t_4, q_t_4, S_t_4, N_t_4, H_t_4, G_t_4⟩ := id V_t
  refine OEnds.st (S' := T3.setTop (mkF m 49 #[vr t, vi 1] [(.int ((x0 >>> ((8 : Int32) &&& 31)).toInt8.toInt32)), (.int ((x0.toInt8.toInt32) &&& (255 : Int32)))])) (X3.baloadBytes hx (j := (1 : Int32)) (v := (.int ((x0 >>> ((8 : Int32) &&& 31)).toInt8.toInt32))) (by rw [e3]; exact Ar_t_4.1) (State.isArrayOf_alike hZ.alike Ar_t_4.2.1) Ar_t_4.2.2 (inb_of S_t_4 ⟨by decide, by decide⟩) (H_t_4.at (inb_of S_t_4 ⟨by decide, by decide⟩) rfl) (g := (mkF m 48 #[vr t, vi 1] [(.int 1), (.ref t), (.int ((x0.toInt8.toInt32) &&& (255 : Int32)))])) rfl rfl (hb hby d_jdk_52_5_48)) ?_
  refine OEnds.st (S' := T3.setTop (mkF m 53 #[vr t, vi 1] [(.int (((x0 >>> ((8 : Int32) &&& 31)).toInt8.toInt32) &&& (255 : Int32))), (.int ((x0.toInt8.toInt32) &&& (255 : Int32)))])) (fun _ k => ?_) ?_
  · refine XS.sipush X3.here hx rfl (hb hby d_jdk_52_5_49) ?_
    refine XS.iand X3.here hx rfl (hb hby d_jdk_52_5_52) rfl ?_
    exact k
  obtain ⟨T5, X5, e5, st5⟩ := getS2 X3 hx hZ hown (host := "") (Or.inl (wq hw 100 rfl)) Via.refl e3 (S_LO.ext O0) (g := (mkF m 53 #[vr t, vi 1] [(.int (((x0 >>> ((8 : Int32) &&& 31)).toInt8.toInt32) &&& (255 : Int32))), (.int ((x0.toInt8.toInt32) &&& (255 : Int32)))])) rfl (hb hby d_jdk_52_5_53)
  refine OEnds.st st5 ?_
  refine OEnds.st (S' := T5.setTop (mkF m 59 #[vr t, vi 1] [(.int ((((x0.toInt8.toInt32) &&& (255 : Int32)) ||| ((((x0 >>> ((8 : Int32) &&& 31)).toInt8.toInt32) &&& (255 : Int32)) <<< ((8 : Int32) &&& 31))).toUInt32.toUInt16.toUInt32.toInt32))])) (fun _ k => ?_) ?_
  · refine XS.ishl X5.here hx rfl (hb hby d_jdk_52_5_56) rfl ?_
    refine XS.ior X5.here hx rfl (hb hby d_jdk_52_5_57) rfl ?_
    refine XS.i2c X5.here hx rfl (hb hby d_jdk_52_5_58) rfl ?_
    exact k
  rw [gch hx0]
  exact OEnds.ret X5 hx hret hlk (StrChars.narrow_ch hx0.1 hx0.2) (Or.inl ⟨rfl, by simp, _, rfl⟩) (hb hby d_jdk_52_5_59) (by decide) (by decide) (by rw [e5]; exact ⟨rfl, N0, rfl⟩)
-- java/lang/StringUTF16.putChar:([BII)V
def Q_putC3_1 (Z : State) (t : Addr) (x1 : Int32) (k : ClassId) (x0 : Int32) (h0 : Heap) (v : Option Value) (h : Heap) (L : List Loc) : Prop := v = none ∧ Fr Z.heap.size L ∧ Keep h0 h [t] ∧ Arv Z h t k .byte (6 : Int32) [(.int (x0.toInt8.toInt32)), (.int ((x0 >>> ((8 : Int32) &&& 31)).toInt8.toInt32)), (.int (x1.toInt8.toInt32)), (.int ((x1 >>> ((8 : Int32) &&& 31)).toInt8.toInt32)), (.int 0), (.int 0)] (.int 0)
theorem ef_putC3_1 (m : MethodId) (t : Addr) (x1 : Int32) : entryFrame m #[(.ref t), (.int 1), (.int x1)] 3 = mkF m 0 #[vr t, vi 1, vi x1] [] := by first | (simp [entryFrame, mkF, argsToLocals, Value.category, vi, vj, vr]; done) | rfl
set_option maxRecDepth 65536 in
set_option maxHeartbeats 40000000 in
theorem rm_putC3_1 (l : Launch) {Z : State} {a0 : Array Value} (hD : Wd Z a0) (t : Addr) (x1 : Int32) (k : ClassId) (x0 : Int32) {h0 : Heap} (O0 : Ext Z.heap h0) (V_t : Arv Z h0 t k .byte (6 : Int32) [(.int (x0.toInt8.toInt32)), (.int ((x0 >>> ((8 : Int32) &&& 31)).toInt8.toInt32)), (.int 0), (.int 0), (.int 0), (.int 0)] (.int 0)) (ge_t : Z.heap.size ≤ t) :
    Con l Z (⟨"java/lang/StringUTF16", "putChar", "([BII)V"⟩ : MethodName) jdk_52_method_4_code 3 none [] ({ frames := 0, cells := 0, slots := 0, locals := 0 } : Room) #[(.ref t), (.int 1), (.int x1)] h0 (Q_putC3_1 Z t x1 k x0 h0) := by
  refine Con.walk (plainFor_of_name pn_4) ?_
  intro p e s m below meth c T0 X0 hx hZ hby hml hown hnm hret hlk e0
  obtain ⟨hw, ⟨cz, S_CS, hcz⟩, ⟨sf, S_SF, hsf⟩, S_AD, S_HI, S_LO⟩ := id hD
  have N0 := Fr.nil Z.heap.size
  have K0 : Keep h0 h0 [t] := Keep.refl _ _
  refine OEnds.cast (ef_putC3_1 m t x1) ?_
  obtain ⟨T1, X1, e1, st1⟩ := getS2 X0 hx hZ hown (host := "") (Or.inl (wq hw 98 rfl)) Via.refl e0 (S_AD.ext O0) (g := (mkF m 0 #[vr t, vi 1, vi x1] [])) rfl (hb hby d_jdk_52_4_0)
  refine OEnds.st st1 ?_
  refine OEnds.st (S' := T1.setTop (mkF m 38 #[vr t, vi 3, vi x1] [(.int x1), (.int 2), (.ref t)])) (fun _ k => ?_) ?_
  · refine XS.ifYes X1.here hx rfl (pc0 := 3) (pc' := 28) rfl (hb hby d_jdk_52_4_3) rfl ((if0 _ _).trans (feq (by decide)).2) (by decide) (by decide) ?_
    refine XS.iloadN X1.here hx rfl (hb hby d_jdk_52_4_28) rfl ?_
    refine XS.iconst X1.here hx rfl (hb hby d_jdk_52_4_29) ?_
    refine XS.ishl X1.here hx rfl (hb hby d_jdk_52_4_30) rfl ?_
    show Steps p.tables e below (T1.setTop (mkF m 31 #[vr t, vi 1, vi x1] [(.int 2)])) _
    refine XS.istoreN X1.here hx rfl (hb hby d_jdk_52_4_31) rfl (l' := #[vr t, vi 2, vi x1]) rfl ?_
    refine XS.aloadN X1.here hx rfl (hb hby d_jdk_52_4_32) rfl rfl ?_
    refine XS.iloadN X1.here hx rfl (hb hby d_jdk_52_4_33) rfl ?_
    refine XS.iinc X1.here hx rfl (hb hby d_jdk_52_4_34) rfl (l' := #[vr t, vi 3, vi x1]) rfl ?_
    show Steps p.tables e below (T1.setTop (mkF m 37 #[vr t, vi 3, vi x1] [(.int 2), (.ref t)])) _
    refine XS.iloadN X1.here hx rfl (hb hby d_jdk_52_4_37) rfl ?_
    exact k
  obtain ⟨T2, X2, e2, st2⟩ := getS2 X1 hx hZ hown (host := "") (Or.inl (wq hw 99 rfl)) Via.refl e1 (S_HI.ext O0) (g := (mkF m 38 #[vr t, vi 3, vi x1] [(.int x1), (.int 2), (.ref t)])) rfl (hb hby d_jdk_52_4_38)
  refine OEnds.st st2 ?_
  refine OEnds.st (S' := T2.setTop (mkF m 43 #[vr t, vi 3, vi x1] [(.int (x1.toInt8.toInt32)), (.int 2), (.ref t)])) (fun _ k => ?_) ?_
  · refine XS.ishr X2.here hx rfl (hb hby d_jdk_52_4_41) rfl ?_
    rw [shr0 x1]
    refine XS.i2b X2.here hx rfl (hb hby d_jdk_52_4_42) rfl ?_
    exact k
  obtain ⟨cl_t_3, Ar_t_3, q_t_3, S_t_3, N_t_3, H_t_3, G_t_3⟩ := V_t
  obtain ⟨T3, h3, X3, e3, W3, st3⟩ := stB X2 hx hZ e2 Ar_t_3 (j := (2 : Int32)) (inb_of S_t_3 ⟨by decide, by decide⟩) (g := (mkF m 43 #[vr t, vi 3, vi x1] [(.int (x1.toInt8.toInt32)), (.int 2), (.ref t)])) rfl rfl (hb hby d_jdk_52_4_43)
  have V_t_3 : Arv Z h3 t k .byte (6 : Int32) [(.int (x0.toInt8.toInt32)), (.int ((x0 >>> ((8 : Int32) &&& 31)).toInt8.toInt32)), (.int (nar .byte (x1.toInt8.toInt32))), (.int 0), (.int 0), (.int 0)] (.int 0) := Arv.set Ar_t_3 q_t_3 S_t_3 N_t_3 H_t_3 G_t_3 (fits_nar_byte _) W3 2 rfl (Nat.le_of_ble_eq_true rfl)
  refine OEnds.st st3 ?_
  replace O0 : Ext Z.heap h3 := ext_wr O0 W3 ge_t
  replace N0 := Fr.snoc X3 N0 ge_t
  replace K0 : Keep h0 h3 [t] := K0.wr W3 (Or.inl (List.mem_of_getElem? (i := 0) rfl))
  refine OEnds.st (S' := T3.setTop (mkF m 47 #[vr t, vi 3, vi x1] [(.int x1), (.int 3), (.ref t)])) (fun _ k => ?_) ?_
  · refine XS.aloadN X3.here hx rfl (hb hby d_jdk_52_4_44) rfl rfl ?_
    refine XS.iloadN X3.here hx rfl (hb hby d_jdk_52_4_45) rfl ?_
    refine XS.iloadN X3.here hx rfl (hb hby d_jdk_52_4_46) rfl ?_
    exact k
  obtain ⟨T4, X4, e4, st4⟩ := getS2 X3 hx hZ hown (host := "") (Or.inl (wq hw 100 rfl)) Via.refl e3 (S_LO.ext O0) (g := (mkF m 47 #[vr t, vi 3, vi x1] [(.int x1), (.int 3), (.ref t)])) rfl (hb hby d_jdk_52_4_47)
  refine OEnds.st st4 ?_
  refine OEnds.st (S' := T4.setTop (mkF m 52 #[vr t, vi 3, vi x1] [(.int ((x1 >>> ((8 : Int32) &&& 31)).toInt8.toInt32)), (.int 3), (.ref t)])) (fun _ k => ?_) ?_
  · refine XS.ishr X4.here hx rfl (hb hby d_jdk_52_4_50) rfl ?_
    refine XS.i2b X4.here hx rfl (hb hby d_jdk_52_4_51) rfl ?_
    exact k
  obtain ⟨cl_t_5, Ar_t_5, q_t_5, S_t_5, N_t_5, H_t_5, G_t_5⟩ := V_t_3
  obtain ⟨T5, h5, X5, e5, W5, st5⟩ := stB X4 hx hZ e4 Ar_t_5 (j := (3 : Int32)) (inb_of S_t_5 ⟨by decide, by decide⟩) (g := (mkF m 52 #[vr t, vi 3, vi x1] [(.int ((x1 >>> ((8 : Int32) &&& 31)).toInt8.toInt32)), (.int 3), (.ref t)])) rfl rfl (hb hby d_jdk_52_4_52)
  have V_t_5 : Arv Z h5 t k .byte (6 : Int32) [(.int (x0.toInt8.toInt32)), (.int ((x0 >>> ((8 : Int32) &&& 31)).toInt8.toInt32)), (.int (nar .byte (x1.toInt8.toInt32))), (.int (nar .byte ((x1 >>> ((8 : Int32) &&& 31)).toInt8.toInt32))), (.int 0), (.int 0)] (.int 0) := Arv.set Ar_t_5 q_t_5 S_t_5 N_t_5 H_t_5 G_t_5 (fits_nar_byte _) W5 3 rfl (Nat.le_of_ble_eq_true rfl)
  refine OEnds.st st5 ?_
  replace O0 : Ext Z.heap h5 := ext_wr O0 W5 ge_t
  replace N0 := Fr.snoc X5 N0 ge_t
  replace K0 : Keep h0 h5 [t] := K0.wr W5 (Or.inl (List.mem_of_getElem? (i := 0) rfl))
  simp only [nar_b8] at V_t_5
  exact OEnds.retV X5 hx hret hlk (hb hby d_jdk_52_4_53) (by decide) (by decide) (by rw [e5]; exact ⟨rfl, N0, K0, V_t_5⟩)
-- java/lang/StringUTF16.getChar:([BI)C
def Q_getC3_1 (Z : State) (t : Addr) (k : ClassId) (x0 x1 x2 : Int32) (h0 : Heap) (v : Option Value) (h : Heap) (L : List Loc) : Prop := v = some (.int x1) ∧ Fr Z.heap.size L ∧ h = h0
theorem ef_getC3_1 (m : MethodId) (t : Addr) : entryFrame m #[(.ref t), (.int 1)] 2 = mkF m 0 #[vr t, vi 1] [] := by first | (simp [entryFrame, mkF, argsToLocals, Value.category, vi, vj, vr]; done) | rfl
set_option maxRecDepth 65536 in
set_option maxHeartbeats 40000000 in
theorem rm_getC3_1 (l : Launch) {Z : State} {a0 : Array Value} (hD : Wd Z a0) (t : Addr) (k : ClassId) (x0 x1 x2 : Int32) {h0 : Heap} (O0 : Ext Z.heap h0) (V_t : Arv Z h0 t k .byte (6 : Int32) [(.int (x0.toInt8.toInt32)), (.int ((x0 >>> ((8 : Int32) &&& 31)).toInt8.toInt32)), (.int (x1.toInt8.toInt32)), (.int ((x1 >>> ((8 : Int32) &&& 31)).toInt8.toInt32)), (.int (x2.toInt8.toInt32)), (.int ((x2 >>> ((8 : Int32) &&& 31)).toInt8.toInt32))] (.int 0)) (hx1 : ¬ x1 < 0 ∧ ¬ (65535 : Int32) < x1) :
    Con l Z (⟨"java/lang/StringUTF16", "getChar", "([BI)C"⟩ : MethodName) jdk_52_method_5_code 2 (some .char) [] ({ frames := 0, cells := 0, slots := 0, locals := 0 } : Room) #[(.ref t), (.int 1)] h0 (Q_getC3_1 Z t k x0 x1 x2 h0) := by
  refine Con.walk (plainFor_of_name pn_4) ?_
  intro p e s m below meth c T0 X0 hx hZ hby hml hown hnm hret hlk e0
  obtain ⟨hw, ⟨cz, S_CS, hcz⟩, ⟨sf, S_SF, hsf⟩, S_AD, S_HI, S_LO⟩ := id hD
  have N0 := Fr.nil Z.heap.size
  refine OEnds.cast (ef_getC3_1 m t) ?_
  obtain ⟨T1, X1, e1, st1⟩ := getS2 X0 hx hZ hown (host := "") (Or.inl (wq hw 98 rfl)) Via.refl e0 (S_AD.ext O0) (g := (mkF m 0 #[vr t, vi 1] [])) rfl (hb hby d_jdk_52_5_0)
  refine OEnds.st st1 ?_
  refine OEnds.st (S' := T1.setTop (mkF m 37 #[vr t, vi 3] [(.int 2), (.ref t)])) (fun _ k => ?_) ?_
  · refine XS.ifYes X1.here hx rfl (pc0 := 3) (pc' := 28) rfl (hb hby d_jdk_52_5_3) rfl ((if0 _ _).trans (feq (by decide)).2) (by decide) (by decide) ?_
    refine XS.iloadN X1.here hx rfl (hb hby d_jdk_52_5_28) rfl ?_
    refine XS.iconst X1.here hx rfl (hb hby d_jdk_52_5_29) ?_
    refine XS.ishl X1.here hx rfl (hb hby d_jdk_52_5_30) rfl ?_
    show Steps p.tables e below (T1.setTop (mkF m 31 #[vr t, vi 1] [(.int 2)])) _
    refine XS.istoreN X1.here hx rfl (hb hby d_jdk_52_5_31) rfl (l' := #[vr t, vi 2]) rfl ?_
    refine XS.aloadN X1.here hx rfl (hb hby d_jdk_52_5_32) rfl rfl ?_
    refine XS.iloadN X1.here hx rfl (hb hby d_jdk_52_5_33) rfl ?_
    refine XS.iinc X1.here hx rfl (hb hby d_jdk_52_5_34) rfl (l' := #[vr t, vi 3]) rfl ?_
    exact k
  obtain ⟨cl_t_2, Ar_t_2, q_t_2, S_t_2, N_t_2, H_t_2, G_t_2⟩ := id V_t
  refine OEnds.st (S' := T1.setTop (mkF m 38 #[vr t, vi 3] [(.int (x1.toInt8.toInt32))])) (X1.baloadBytes hx (j := (2 : Int32)) (v := (.int (x1.toInt8.toInt32))) (by rw [e1]; exact Ar_t_2.1) (State.isArrayOf_alike hZ.alike Ar_t_2.2.1) Ar_t_2.2.2 (inb_of S_t_2 ⟨by decide, by decide⟩) (H_t_2.at (inb_of S_t_2 ⟨by decide, by decide⟩) rfl) (g := (mkF m 37 #[vr t, vi 3] [(.int 2), (.ref t)])) rfl rfl (hb hby d_jdk_52_5_37)) ?_
  refine OEnds.st (S' := T1.setTop (mkF m 42 #[vr t, vi 3] [(.int ((x1.toInt8.toInt32) &&& (255 : Int32)))])) (fun _ k => ?_) ?_
  · refine XS.sipush X1.here hx rfl (hb hby d_jdk_52_5_38) ?_
    refine XS.iand X1.here hx rfl (hb hby d_jdk_52_5_41) rfl ?_
    exact k
  obtain ⟨T3, X3, e3, st3⟩ := getS2 X1 hx hZ hown (host := "") (Or.inl (wq hw 99 rfl)) Via.refl e1 (S_HI.ext O0) (g := (mkF m 42 #[vr t, vi 3] [(.int ((x1.toInt8.toInt32) &&& (255 : Int32)))])) rfl (hb hby d_jdk_52_5_42)
  refine OEnds.st st3 ?_
  refine OEnds.st (S' := T3.setTop (mkF m 48 #[vr t, vi 3] [(.int 3), (.ref t), (.int ((x1.toInt8.toInt32) &&& (255 : Int32)))])) (fun _ k => ?_) ?_
  · refine XS.ishl X3.here hx rfl (hb hby d_jdk_52_5_45) rfl ?_
    rw [shl0 ((x1.toInt8.toInt32) &&& (255 : Int32))]
    refine XS.aloadN X3.here hx rfl (hb hby d_jdk_52_5_46) rfl rfl ?_
    refine XS.iloadN X3.here hx rfl (hb hby d_jdk_52_5_47) rfl ?_
    exact k
  obtain ⟨cl_t_4, Ar_t_4, q_t_4, S_t_4, N_t_4, H_t_4, G_t_4⟩ := id V_t
  refine OEnds.st (S' := T3.setTop (mkF m 49 #[vr t, vi 3] [(.int ((x1 >>> ((8 : Int32) &&& 31)).toInt8.toInt32)), (.int ((x1.toInt8.toInt32) &&& (255 : Int32)))])) (X3.baloadBytes hx (j := (3 : Int32)) (v := (.int ((x1 >>> ((8 : Int32) &&& 31)).toInt8.toInt32))) (by rw [e3]; exact Ar_t_4.1) (State.isArrayOf_alike hZ.alike Ar_t_4.2.1) Ar_t_4.2.2 (inb_of S_t_4 ⟨by decide, by decide⟩) (H_t_4.at (inb_of S_t_4 ⟨by decide, by decide⟩) rfl) (g := (mkF m 48 #[vr t, vi 3] [(.int 3), (.ref t), (.int ((x1.toInt8.toInt32) &&& (255 : Int32)))])) rfl rfl (hb hby d_jdk_52_5_48)) ?_
  refine OEnds.st (S' := T3.setTop (mkF m 53 #[vr t, vi 3] [(.int (((x1 >>> ((8 : Int32) &&& 31)).toInt8.toInt32) &&& (255 : Int32))), (.int ((x1.toInt8.toInt32) &&& (255 : Int32)))])) (fun _ k => ?_) ?_
  · refine XS.sipush X3.here hx rfl (hb hby d_jdk_52_5_49) ?_
    refine XS.iand X3.here hx rfl (hb hby d_jdk_52_5_52) rfl ?_
    exact k
  obtain ⟨T5, X5, e5, st5⟩ := getS2 X3 hx hZ hown (host := "") (Or.inl (wq hw 100 rfl)) Via.refl e3 (S_LO.ext O0) (g := (mkF m 53 #[vr t, vi 3] [(.int (((x1 >>> ((8 : Int32) &&& 31)).toInt8.toInt32) &&& (255 : Int32))), (.int ((x1.toInt8.toInt32) &&& (255 : Int32)))])) rfl (hb hby d_jdk_52_5_53)
  refine OEnds.st st5 ?_
  refine OEnds.st (S' := T5.setTop (mkF m 59 #[vr t, vi 3] [(.int ((((x1.toInt8.toInt32) &&& (255 : Int32)) ||| ((((x1 >>> ((8 : Int32) &&& 31)).toInt8.toInt32) &&& (255 : Int32)) <<< ((8 : Int32) &&& 31))).toUInt32.toUInt16.toUInt32.toInt32))])) (fun _ k => ?_) ?_
  · refine XS.ishl X5.here hx rfl (hb hby d_jdk_52_5_56) rfl ?_
    refine XS.ior X5.here hx rfl (hb hby d_jdk_52_5_57) rfl ?_
    refine XS.i2c X5.here hx rfl (hb hby d_jdk_52_5_58) rfl ?_
    exact k
  rw [gch hx1]
  exact OEnds.ret X5 hx hret hlk (StrChars.narrow_ch hx1.1 hx1.2) (Or.inl ⟨rfl, by simp, _, rfl⟩) (hb hby d_jdk_52_5_59) (by decide) (by decide) (by rw [e5]; exact ⟨rfl, N0, rfl⟩)
-- java/lang/StringUTF16.putChar:([BII)V
def Q_putC3_2 (Z : State) (t : Addr) (x2 : Int32) (k : ClassId) (x0 x1 : Int32) (h0 : Heap) (v : Option Value) (h : Heap) (L : List Loc) : Prop := v = none ∧ Fr Z.heap.size L ∧ Keep h0 h [t] ∧ Arv Z h t k .byte (6 : Int32) [(.int (x0.toInt8.toInt32)), (.int ((x0 >>> ((8 : Int32) &&& 31)).toInt8.toInt32)), (.int (x1.toInt8.toInt32)), (.int ((x1 >>> ((8 : Int32) &&& 31)).toInt8.toInt32)), (.int (x2.toInt8.toInt32)), (.int ((x2 >>> ((8 : Int32) &&& 31)).toInt8.toInt32))] (.int 0)
theorem ef_putC3_2 (m : MethodId) (t : Addr) (x2 : Int32) : entryFrame m #[(.ref t), (.int 2), (.int x2)] 3 = mkF m 0 #[vr t, vi 2, vi x2] [] := by first | (simp [entryFrame, mkF, argsToLocals, Value.category, vi, vj, vr]; done) | rfl
set_option maxRecDepth 65536 in
set_option maxHeartbeats 40000000 in
theorem rm_putC3_2 (l : Launch) {Z : State} {a0 : Array Value} (hD : Wd Z a0) (t : Addr) (x2 : Int32) (k : ClassId) (x0 x1 : Int32) {h0 : Heap} (O0 : Ext Z.heap h0) (V_t : Arv Z h0 t k .byte (6 : Int32) [(.int (x0.toInt8.toInt32)), (.int ((x0 >>> ((8 : Int32) &&& 31)).toInt8.toInt32)), (.int (x1.toInt8.toInt32)), (.int ((x1 >>> ((8 : Int32) &&& 31)).toInt8.toInt32)), (.int 0), (.int 0)] (.int 0)) (ge_t : Z.heap.size ≤ t) :
    Con l Z (⟨"java/lang/StringUTF16", "putChar", "([BII)V"⟩ : MethodName) jdk_52_method_4_code 3 none [] ({ frames := 0, cells := 0, slots := 0, locals := 0 } : Room) #[(.ref t), (.int 2), (.int x2)] h0 (Q_putC3_2 Z t x2 k x0 x1 h0) := by
  refine Con.walk (plainFor_of_name pn_4) ?_
  intro p e s m below meth c T0 X0 hx hZ hby hml hown hnm hret hlk e0
  obtain ⟨hw, ⟨cz, S_CS, hcz⟩, ⟨sf, S_SF, hsf⟩, S_AD, S_HI, S_LO⟩ := id hD
  have N0 := Fr.nil Z.heap.size
  have K0 : Keep h0 h0 [t] := Keep.refl _ _
  refine OEnds.cast (ef_putC3_2 m t x2) ?_
  obtain ⟨T1, X1, e1, st1⟩ := getS2 X0 hx hZ hown (host := "") (Or.inl (wq hw 98 rfl)) Via.refl e0 (S_AD.ext O0) (g := (mkF m 0 #[vr t, vi 2, vi x2] [])) rfl (hb hby d_jdk_52_4_0)
  refine OEnds.st st1 ?_
  refine OEnds.st (S' := T1.setTop (mkF m 38 #[vr t, vi 5, vi x2] [(.int x2), (.int 4), (.ref t)])) (fun _ k => ?_) ?_
  · refine XS.ifYes X1.here hx rfl (pc0 := 3) (pc' := 28) rfl (hb hby d_jdk_52_4_3) rfl ((if0 _ _).trans (feq (by decide)).2) (by decide) (by decide) ?_
    refine XS.iloadN X1.here hx rfl (hb hby d_jdk_52_4_28) rfl ?_
    refine XS.iconst X1.here hx rfl (hb hby d_jdk_52_4_29) ?_
    refine XS.ishl X1.here hx rfl (hb hby d_jdk_52_4_30) rfl ?_
    show Steps p.tables e below (T1.setTop (mkF m 31 #[vr t, vi 2, vi x2] [(.int 4)])) _
    refine XS.istoreN X1.here hx rfl (hb hby d_jdk_52_4_31) rfl (l' := #[vr t, vi 4, vi x2]) rfl ?_
    refine XS.aloadN X1.here hx rfl (hb hby d_jdk_52_4_32) rfl rfl ?_
    refine XS.iloadN X1.here hx rfl (hb hby d_jdk_52_4_33) rfl ?_
    refine XS.iinc X1.here hx rfl (hb hby d_jdk_52_4_34) rfl (l' := #[vr t, vi 5, vi x2]) rfl ?_
    show Steps p.tables e below (T1.setTop (mkF m 37 #[vr t, vi 5, vi x2] [(.int 4), (.ref t)])) _
    refine XS.iloadN X1.here hx rfl (hb hby d_jdk_52_4_37) rfl ?_
    exact k
  obtain ⟨T2, X2, e2, st2⟩ := getS2 X1 hx hZ hown (host := "") (Or.inl (wq hw 99 rfl)) Via.refl e1 (S_HI.ext O0) (g := (mkF m 38 #[vr t, vi 5, vi x2] [(.int x2), (.int 4), (.ref t)])) rfl (hb hby d_jdk_52_4_38)
  refine OEnds.st st2 ?_
  refine OEnds.st (S' := T2.setTop (mkF m 43 #[vr t, vi 5, vi x2] [(.int (x2.toInt8.toInt32)), (.int 4), (.ref t)])) (fun _ k => ?_) ?_
  · refine XS.ishr X2.here hx rfl (hb hby d_jdk_52_4_41) rfl ?_
    rw [shr0 x2]
    refine XS.i2b X2.here hx rfl (hb hby d_jdk_52_4_42) rfl ?_
    exact k
  obtain ⟨cl_t_3, Ar_t_3, q_t_3, S_t_3, N_t_3, H_t_3, G_t_3⟩ := V_t
  obtain ⟨T3, h3, X3, e3, W3, st3⟩ := stB X2 hx hZ e2 Ar_t_3 (j := (4 : Int32)) (inb_of S_t_3 ⟨by decide, by decide⟩) (g := (mkF m 43 #[vr t, vi 5, vi x2] [(.int (x2.toInt8.toInt32)), (.int 4), (.ref t)])) rfl rfl (hb hby d_jdk_52_4_43)
  have V_t_3 : Arv Z h3 t k .byte (6 : Int32) [(.int (x0.toInt8.toInt32)), (.int ((x0 >>> ((8 : Int32) &&& 31)).toInt8.toInt32)), (.int (x1.toInt8.toInt32)), (.int ((x1 >>> ((8 : Int32) &&& 31)).toInt8.toInt32)), (.int (nar .byte (x2.toInt8.toInt32))), (.int 0)] (.int 0) := Arv.set Ar_t_3 q_t_3 S_t_3 N_t_3 H_t_3 G_t_3 (fits_nar_byte _) W3 4 rfl (Nat.le_of_ble_eq_true rfl)
  refine OEnds.st st3 ?_
  replace O0 : Ext Z.heap h3 := ext_wr O0 W3 ge_t
  replace N0 := Fr.snoc X3 N0 ge_t
  replace K0 : Keep h0 h3 [t] := K0.wr W3 (Or.inl (List.mem_of_getElem? (i := 0) rfl))
  refine OEnds.st (S' := T3.setTop (mkF m 47 #[vr t, vi 5, vi x2] [(.int x2), (.int 5), (.ref t)])) (fun _ k => ?_) ?_
  · refine XS.aloadN X3.here hx rfl (hb hby d_jdk_52_4_44) rfl rfl ?_
    refine XS.iloadN X3.here hx rfl (hb hby d_jdk_52_4_45) rfl ?_
    refine XS.iloadN X3.here hx rfl (hb hby d_jdk_52_4_46) rfl ?_
    exact k
  obtain ⟨T4, X4, e4, st4⟩ := getS2 X3 hx hZ hown (host := "") (Or.inl (wq hw 100 rfl)) Via.refl e3 (S_LO.ext O0) (g := (mkF m 47 #[vr t, vi 5, vi x2] [(.int x2), (.int 5), (.ref t)])) rfl (hb hby d_jdk_52_4_47)
  refine OEnds.st st4 ?_
  refine OEnds.st (S' := T4.setTop (mkF m 52 #[vr t, vi 5, vi x2] [(.int ((x2 >>> ((8 : Int32) &&& 31)).toInt8.toInt32)), (.int 5), (.ref t)])) (fun _ k => ?_) ?_
  · refine XS.ishr X4.here hx rfl (hb hby d_jdk_52_4_50) rfl ?_
    refine XS.i2b X4.here hx rfl (hb hby d_jdk_52_4_51) rfl ?_
    exact k
  obtain ⟨cl_t_5, Ar_t_5, q_t_5, S_t_5, N_t_5, H_t_5, G_t_5⟩ := V_t_3
  obtain ⟨T5, h5, X5, e5, W5, st5⟩ := stB X4 hx hZ e4 Ar_t_5 (j := (5 : Int32)) (inb_of S_t_5 ⟨by decide, by decide⟩) (g := (mkF m 52 #[vr t, vi 5, vi x2] [(.int ((x2 >>> ((8 : Int32) &&& 31)).toInt8.toInt32)), (.int 5), (.ref t)])) rfl rfl (hb hby d_jdk_52_4_52)
  have V_t_5 : Arv Z h5 t k .byte (6 : Int32) [(.int (x0.toInt8.toInt32)), (.int ((x0 >>> ((8 : Int32) &&& 31)).toInt8.toInt32)), (.int (x1.toInt8.toInt32)), (.int ((x1 >>> ((8 : Int32) &&& 31)).toInt8.toInt32)), (.int (nar .byte (x2.toInt8.toInt32))), (.int (nar .byte ((x2 >>> ((8 : Int32) &&& 31)).toInt8.toInt32)))] (.int 0) := Arv.set Ar_t_5 q_t_5 S_t_5 N_t_5 H_t_5 G_t_5 (fits_nar_byte _) W5 5 rfl (Nat.le_of_ble_eq_true rfl)
  refine OEnds.st st5 ?_
  replace O0 : Ext Z.heap h5 := ext_wr O0 W5 ge_t
  replace N0 := Fr.snoc X5 N0 ge_t
  replace K0 : Keep h0 h5 [t] := K0.wr W5 (Or.inl (List.mem_of_getElem? (i := 0) rfl))
  simp only [nar_b8] at V_t_5
  exact OEnds.retV X5 hx hret hlk (hb hby d_jdk_52_4_53) (by decide) (by decide) (by rw [e5]; exact ⟨rfl, N0, K0, V_t_5⟩)
-- java/lang/StringUTF16.getChar:([BI)C
def Q_getC3_2 (Z : State) (t : Addr) (k : ClassId) (x0 x1 x2 : Int32) (h0 : Heap) (v : Option Value) (h : Heap) (L : List Loc) : Prop := v = some (.int x2) ∧ Fr Z.heap.size L ∧ h = h0
theorem ef_getC3_2 (m : MethodId) (t : Addr) : entryFrame m #[(.ref t), (.int 2)] 2 = mkF m 0 #[vr t, vi 2] [] := by first | (simp [entryFrame, mkF, argsToLocals, Value.category, vi, vj, vr]; done) | rfl
set_option maxRecDepth 65536 in
set_option maxHeartbeats 40000000 in
theorem rm_getC3_2 (l : Launch) {Z : State} {a0 : Array Value} (hD : Wd Z a0) (t : Addr) (k : ClassId) (x0 x1 x2 : Int32) {h0 : Heap} (O0 : Ext Z.heap h0) (V_t : Arv Z h0 t k .byte (6 : Int32) [(.int (x0.toInt8.toInt32)), (.int ((x0 >>> ((8 : Int32) &&& 31)).toInt8.toInt32)), (.int (x1.toInt8.toInt32)), (.int ((x1 >>> ((8 : Int32) &&& 31)).toInt8.toInt32)), (.int (x2.toInt8.toInt32)), (.int ((x2 >>> ((8 : Int32) &&& 31)).toInt8.toInt32))] (.int 0)) (hx2 : ¬ x2 < 0 ∧ ¬ (65535 : Int32) < x2) :
    Con l Z (⟨"java/lang/StringUTF16", "getChar", "([BI)C"⟩ : MethodName) jdk_52_method_5_code 2 (some .char) [] ({ frames := 0, cells := 0, slots := 0, locals := 0 } : Room) #[(.ref t), (.int 2)] h0 (Q_getC3_2 Z t k x0 x1 x2 h0) := by
  refine Con.walk (plainFor_of_name pn_4) ?_
  intro p e s m below meth c T0 X0 hx hZ hby hml hown hnm hret hlk e0
  obtain ⟨hw, ⟨cz, S_CS, hcz⟩, ⟨sf, S_SF, hsf⟩, S_AD, S_HI, S_LO⟩ := id hD
  have N0 := Fr.nil Z.heap.size
  refine OEnds.cast (ef_getC3_2 m t) ?_
  obtain ⟨T1, X1, e1, st1⟩ := getS2 X0 hx hZ hown (host := "") (Or.inl (wq hw 98 rfl)) Via.refl e0 (S_AD.ext O0) (g := (mkF m 0 #[vr t, vi 2] [])) rfl (hb hby d_jdk_52_5_0)
  refine OEnds.st st1 ?_
  refine OEnds.st (S' := T1.setTop (mkF m 37 #[vr t, vi 5] [(.int 4), (.ref t)])) (fun _ k => ?_) ?_
  · refine XS.ifYes X1.here hx rfl (pc0 := 3) (pc' := 28) rfl (hb hby d_jdk_52_5_3) rfl ((if0 _ _).trans (feq (by decide)).2) (by decide) (by decide) ?_
    refine XS.iloadN X1.here hx rfl (hb hby d_jdk_52_5_28) rfl ?_
    refine XS.iconst X1.here hx rfl (hb hby d_jdk_52_5_29) ?_
    refine XS.ishl X1.here hx rfl (hb hby d_jdk_52_5_30) rfl ?_
    show Steps p.tables e below (T1.setTop (mkF m 31 #[vr t, vi 2] [(.int 4)])) _
    refine XS.istoreN X1.here hx rfl (hb hby d_jdk_52_5_31) rfl (l' := #[vr t, vi 4]) rfl ?_
    refine XS.aloadN X1.here hx rfl (hb hby d_jdk_52_5_32) rfl rfl ?_
    refine XS.iloadN X1.here hx rfl (hb hby d_jdk_52_5_33) rfl ?_
    refine XS.iinc X1.here hx rfl (hb hby d_jdk_52_5_34) rfl (l' := #[vr t, vi 5]) rfl ?_
    exact k
  obtain ⟨cl_t_2, Ar_t_2, q_t_2, S_t_2, N_t_2, H_t_2, G_t_2⟩ := id V_t
  refine OEnds.st (S' := T1.setTop (mkF m 38 #[vr t, vi 5] [(.int (x2.toInt8.toInt32))])) (X1.baloadBytes hx (j := (4 : Int32)) (v := (.int (x2.toInt8.toInt32))) (by rw [e1]; exact Ar_t_2.1) (State.isArrayOf_alike hZ.alike Ar_t_2.2.1) Ar_t_2.2.2 (inb_of S_t_2 ⟨by decide, by decide⟩) (H_t_2.at (inb_of S_t_2 ⟨by decide, by decide⟩) rfl) (g := (mkF m 37 #[vr t, vi 5] [(.int 4), (.ref t)])) rfl rfl (hb hby d_jdk_52_5_37)) ?_
  refine OEnds.st (S' := T1.setTop (mkF m 42 #[vr t, vi 5] [(.int ((x2.toInt8.toInt32) &&& (255 : Int32)))])) (fun _ k => ?_) ?_
  · refine XS.sipush X1.here hx rfl (hb hby d_jdk_52_5_38) ?_
    refine XS.iand X1.here hx rfl (hb hby d_jdk_52_5_41) rfl ?_
    exact k
  obtain ⟨T3, X3, e3, st3⟩ := getS2 X1 hx hZ hown (host := "") (Or.inl (wq hw 99 rfl)) Via.refl e1 (S_HI.ext O0) (g := (mkF m 42 #[vr t, vi 5] [(.int ((x2.toInt8.toInt32) &&& (255 : Int32)))])) rfl (hb hby d_jdk_52_5_42)
  refine OEnds.st st3 ?_
  refine OEnds.st (S' := T3.setTop (mkF m 48 #[vr t, vi 5] [(.int 5), (.ref t), (.int ((x2.toInt8.toInt32) &&& (255 : Int32)))])) (fun _ k => ?_) ?_
  · refine XS.ishl X3.here hx rfl (hb hby d_jdk_52_5_45) rfl ?_
    rw [shl0 ((x2.toInt8.toInt32) &&& (255 : Int32))]
    refine XS.aloadN X3.here hx rfl (hb hby d_jdk_52_5_46) rfl rfl ?_
    refine XS.iloadN X3.here hx rfl (hb hby d_jdk_52_5_47) rfl ?_
    exact k
  obtain ⟨cl_t_4, Ar_t_4, q_t_4, S_t_4, N_t_4, H_t_4, G_t_4⟩ := id V_t
  refine OEnds.st (S' := T3.setTop (mkF m 49 #[vr t, vi 5] [(.int ((x2 >>> ((8 : Int32) &&& 31)).toInt8.toInt32)), (.int ((x2.toInt8.toInt32) &&& (255 : Int32)))])) (X3.baloadBytes hx (j := (5 : Int32)) (v := (.int ((x2 >>> ((8 : Int32) &&& 31)).toInt8.toInt32))) (by rw [e3]; exact Ar_t_4.1) (State.isArrayOf_alike hZ.alike Ar_t_4.2.1) Ar_t_4.2.2 (inb_of S_t_4 ⟨by decide, by decide⟩) (H_t_4.at (inb_of S_t_4 ⟨by decide, by decide⟩) rfl) (g := (mkF m 48 #[vr t, vi 5] [(.int 5), (.ref t), (.int ((x2.toInt8.toInt32) &&& (255 : Int32)))])) rfl rfl (hb hby d_jdk_52_5_48)) ?_
  refine OEnds.st (S' := T3.setTop (mkF m 53 #[vr t, vi 5] [(.int (((x2 >>> ((8 : Int32) &&& 31)).toInt8.toInt32) &&& (255 : Int32))), (.int ((x2.toInt8.toInt32) &&& (255 : Int32)))])) (fun _ k => ?_) ?_
  · refine XS.sipush X3.here hx rfl (hb hby d_jdk_52_5_49) ?_
    refine XS.iand X3.here hx rfl (hb hby d_jdk_52_5_52) rfl ?_
    exact k
  obtain ⟨T5, X5, e5, st5⟩ := getS2 X3 hx hZ hown (host := "") (Or.inl (wq hw 100 rfl)) Via.refl e3 (S_LO.ext O0) (g := (mkF m 53 #[vr t, vi 5] [(.int (((x2 >>> ((8 : Int32) &&& 31)).toInt8.toInt32) &&& (255 : Int32))), (.int ((x2.toInt8.toInt32) &&& (255 : Int32)))])) rfl (hb hby d_jdk_52_5_53)
  refine OEnds.st st5 ?_
  refine OEnds.st (S' := T5.setTop (mkF m 59 #[vr t, vi 5] [(.int ((((x2.toInt8.toInt32) &&& (255 : Int32)) ||| ((((x2 >>> ((8 : Int32) &&& 31)).toInt8.toInt32) &&& (255 : Int32)) <<< ((8 : Int32) &&& 31))).toUInt32.toUInt16.toUInt32.toInt32))])) (fun _ k => ?_) ?_
  · refine XS.ishl X5.here hx rfl (hb hby d_jdk_52_5_56) rfl ?_
    refine XS.ior X5.here hx rfl (hb hby d_jdk_52_5_57) rfl ?_
    refine XS.i2c X5.here hx rfl (hb hby d_jdk_52_5_58) rfl ?_
    exact k
  rw [gch hx2]
  exact OEnds.ret X5 hx hret hlk (StrChars.narrow_ch hx2.1 hx2.2) (Or.inl ⟨rfl, by simp, _, rfl⟩) (hb hby d_jdk_52_5_59) (by decide) (by decide) (by rw [e5]; exact ⟨rfl, N0, rfl⟩)
-- java/lang/StringUTF16.toBytes:([CII)[B
def Q_toB3 (Z : State) (tc : Addr) (kc : ClassId) (x0 x1 x2 : Int32) (h0 : Heap) (v : Option Value) (h : Heap) (L : List Loc) : Prop := ∃ (t : Addr) (k : ClassId), v = some (.ref t) ∧ Fr Z.heap.size L ∧ Keep h0 h [] ∧ h0.size ≤ t ∧ Arv Z h t k .byte (6 : Int32) [(.int (x0.toInt8.toInt32)), (.int ((x0 >>> ((8 : Int32) &&& 31)).toInt8.toInt32)), (.int (x1.toInt8.toInt32)), (.int ((x1 >>> ((8 : Int32) &&& 31)).toInt8.toInt32)), (.int (x2.toInt8.toInt32)), (.int ((x2 >>> ((8 : Int32) &&& 31)).toInt8.toInt32))] (.int 0)
theorem ef_toB3 (m : MethodId) (tc : Addr) : entryFrame m #[(.ref tc), (.int 0), (.int 3)] 5 = mkF m 0 #[vr tc, vi 0, vi 3, .unset, .unset] [] := by first | (simp [entryFrame, mkF, argsToLocals, Value.category, vi, vj, vr]; done) | rfl
set_option maxRecDepth 65536 in
set_option maxHeartbeats 40000000 in
theorem rm_toB3 (l : Launch) {Z : State} {a0 : Array Value} (hD : Wd Z a0) (tc : Addr) (kc : ClassId) (x0 x1 x2 : Int32) {h0 : Heap} (O0 : Ext Z.heap h0) (V_tc : Arv Z h0 tc kc .char (3 : Int32) [(.int x0), (.int x1), (.int x2)] (.int 0)) :
    Con l Z (⟨"java/lang/StringUTF16", "toBytes", "([CII)[B"⟩ : MethodName) jdk_52_method_14_code 5 (some (.array .byte)) [] ({ frames := 2, cells := 1, slots := 6, locals := 24 } : Room) #[(.ref tc), (.int 0), (.int 3)] h0 (Q_toB3 Z tc kc x0 x1 x2 h0) := by
  refine Con.walk (plainFor_of_name pn_4) ?_
  intro p e s m below meth c T0 X0 hx hZ hby hml hown hnm hret hlk e0
  obtain ⟨hw, ⟨cz, S_CS, hcz⟩, ⟨sf, S_SF, hsf⟩, S_AD, S_HI, S_LO⟩ := id hD
  have N0 := Fr.nil Z.heap.size
  have K0 : Keep h0 h0 [] := Keep.refl _ _
  refine OEnds.cast (ef_toB3 m tc) ?_
  refine OEnds.st (S' := T0.setTop (mkF m 1 #[vr tc, vi 0, vi 3, .unset, .unset] [(.int 3)])) (fun _ k => ?_) ?_
  · refine XS.iloadN X0.here hx rfl (hb hby d_jdk_52_14_0) rfl ?_
    exact k
  obtain ⟨_, T1, h1, L1, X1, e1, hQ1, st1⟩ := callC X0 hx hZ hown (wq hw 88 rfl) (wq hw 89 rfl) (wq hw 22 rfl) (wq hw 90 rfl) (by decide) (kc := 1) (ks := 6) (Con.sb (W := 0) (rm_nbFor3 l hD  O0) hZ (wq hw 90 rfl) (wq hw 22 rfl) (by decide) (by decide)) e0 (g := (mkF m 1 #[vr tc, vi 0, vi 3, .unset, .unset] [(.int 3)])) rfl (by rw [hml]; rfl) (argsL := [(.int 3)]) (rest := []) (lenOf pd_2 rfl) rfl (by show 2 * 0 + _ ≤ _; exact Nat.le_of_eq rfl) (hb hby d_jdk_52_14_1) (by decide) (by decide)
  obtain ⟨t1, k1, rfl, Nq1, Kq1, szq1, V1⟩ := hQ1
  refine OEnds.st st1 ?_
  replace N0 := Fr.app N0 Nq1
  have ne_tc_t1 : tc ≠ t1 := Nat.ne_of_lt (Nat.lt_of_lt_of_le V_tc.lt szq1)
  have ge_t1 : Z.heap.size ≤ t1 := Nat.le_trans O0.1 szq1
  have sz_t1 : h0.size ≤ t1 := Nat.le_trans K0.1 szq1
  replace V_tc := V_tc.keep Kq1 nin0
  replace O0 : Ext Z.heap h1 := ext_keep O0 Kq1 all0
  replace K0 : Keep h0 h1 [] := K0.trans Kq1 all0
  refine OEnds.st (S' := T1.setTop (mkF m 19 #[vr tc, vi 0, vi 3, vr t1, vi 0] [(.int 0), (.ref tc), (.int 0), (.ref t1)])) (fun _ k => ?_) ?_
  · refine XS.astoreN X1.here hx rfl (hb hby d_jdk_52_14_4) rfl rfl (l' := #[vr tc, vi 0, vi 3, vr t1, .unset]) rfl ?_
    refine XS.iconst X1.here hx rfl (hb hby d_jdk_52_14_5) ?_
    refine XS.istore X1.here hx rfl (hb hby d_jdk_52_14_6) rfl (l' := #[vr tc, vi 0, vi 3, vr t1, vi 0]) rfl ?_
    refine XS.iload X1.here hx rfl (hb hby d_jdk_52_14_8) rfl ?_
    show Steps p.tables e below (T1.setTop (mkF m 10 #[vr tc, vi 0, vi 3, vr t1, vi 0] [(.int 0)])) _
    refine XS.iloadN X1.here hx rfl (hb hby d_jdk_52_14_10) rfl ?_
    refine XS.icmpNo X1.here hx rfl (hb hby d_jdk_52_14_11) rfl (tlt (by decide)).2.1 ?_
    refine XS.aloadN X1.here hx rfl (hb hby d_jdk_52_14_14) rfl rfl ?_
    refine XS.iload X1.here hx rfl (hb hby d_jdk_52_14_15) rfl ?_
    show Steps p.tables e below (T1.setTop (mkF m 17 #[vr tc, vi 0, vi 3, vr t1, vi 0] [(.int 0), (.ref t1)])) _
    refine XS.aloadN X1.here hx rfl (hb hby d_jdk_52_14_17) rfl rfl ?_
    refine XS.iloadN X1.here hx rfl (hb hby d_jdk_52_14_18) rfl ?_
    exact k
  obtain ⟨cl_tc_2, Ar_tc_2, q_tc_2, S_tc_2, N_tc_2, H_tc_2, G_tc_2⟩ := id V_tc
  refine OEnds.st (S' := T1.setTop (mkF m 20 #[vr tc, vi 0, vi 3, vr t1, vi 0] [(.int x0), (.int 0), (.ref t1)])) (X1.caload hx (j := (0 : Int32)) (v := (.int x0)) (by rw [e1]; exact Ar_tc_2.1) (State.isArrayOf_alike hZ.alike Ar_tc_2.2.1) Ar_tc_2.2.2 (inb_of S_tc_2 ⟨by decide, by decide⟩) (H_tc_2.at (inb_of S_tc_2 ⟨by decide, by decide⟩) rfl) (g := (mkF m 19 #[vr tc, vi 0, vi 3, vr t1, vi 0] [(.int 0), (.ref tc), (.int 0), (.ref t1)])) rfl rfl (hb hby d_jdk_52_14_19)) ?_
  obtain ⟨_, T3, h3, L3, X3, e3, hQ3, st3⟩ := callC X1 hx hZ hown (wq hw 95 rfl) (wq hw 96 rfl) (wq hw 22 rfl) (wq hw 97 rfl) (by decide) (kc := 0) (ks := 0) (Con.sb (W := 0) (rm_putC3_0 l hD t1 x0 k1 O0 V1 ge_t1) hZ (wq hw 97 rfl) (wq hw 22 rfl) (by decide) (by decide)) e1 (g := (mkF m 20 #[vr tc, vi 0, vi 3, vr t1, vi 0] [(.int x0), (.int 0), (.ref t1)])) rfl (by rw [hml]; rfl) (argsL := [(.ref t1), (.int 0), (.int x0)]) (rest := []) (lenOf pd_3 rfl) rfl (by show 2 * 0 + _ ≤ _; exact Nat.le_of_eq rfl) (hb hby d_jdk_52_14_20) (by decide) (by decide)
  obtain ⟨rfl, Nq3, Kq3, V3⟩ := hQ3
  refine OEnds.st st3 ?_
  replace N0 := Fr.app N0 Nq3
  replace V_tc := V_tc.keep Kq3 (ninS ne_tc_t1 nin0)
  replace O0 : Ext Z.heap h3 := ext_keep O0 Kq3 (allS ge_t1 all0)
  replace K0 : Keep h0 h3 [] := K0.trans Kq3 (allS (Or.inr sz_t1) all0)
  refine OEnds.st (S' := T3.setTop (mkF m 19 #[vr tc, vi 1, vi 3, vr t1, vi 1] [(.int 1), (.ref tc), (.int 1), (.ref t1)])) (fun _ k => ?_) ?_
  · refine XS.iinc X3.here hx rfl (hb hby d_jdk_52_14_23) rfl (l' := #[vr tc, vi 1, vi 3, vr t1, vi 0]) rfl ?_
    refine XS.iinc X3.here hx rfl (hb hby d_jdk_52_14_26) rfl (l' := #[vr tc, vi 1, vi 3, vr t1, vi 1]) rfl ?_
    refine XS.goto X3.here hx rfl (pc0 := 29) (pc' := 8) rfl (hb hby d_jdk_52_14_29) (by decide) (by decide) ?_
    refine XS.iload X3.here hx rfl (hb hby d_jdk_52_14_8) rfl ?_
    show Steps p.tables e below (T3.setTop (mkF m 10 #[vr tc, vi 1, vi 3, vr t1, vi 1] [(.int 1)])) _
    refine XS.iloadN X3.here hx rfl (hb hby d_jdk_52_14_10) rfl ?_
    refine XS.icmpNo X3.here hx rfl (hb hby d_jdk_52_14_11) rfl (tlt (by decide)).2.1 ?_
    refine XS.aloadN X3.here hx rfl (hb hby d_jdk_52_14_14) rfl rfl ?_
    refine XS.iload X3.here hx rfl (hb hby d_jdk_52_14_15) rfl ?_
    show Steps p.tables e below (T3.setTop (mkF m 17 #[vr tc, vi 1, vi 3, vr t1, vi 1] [(.int 1), (.ref t1)])) _
    refine XS.aloadN X3.here hx rfl (hb hby d_jdk_52_14_17) rfl rfl ?_
    refine XS.iloadN X3.here hx rfl (hb hby d_jdk_52_14_18) rfl ?_
    exact k
  obtain ⟨cl_tc_4, Ar_tc_4, q_tc_4, S_tc_4, N_tc_4, H_tc_4, G_tc_4⟩ := id V_tc
  refine OEnds.st (S' := T3.setTop (mkF m 20 #[vr tc, vi 1, vi 3, vr t1, vi 1] [(.int x1), (.int 1), (.ref t1)])) (X3.caload hx (j := (1 : Int32)) (v := (.int x1)) (by rw [e3]; exact Ar_tc_4.1) (State.isArrayOf_alike hZ.alike Ar_tc_4.2.1) Ar_tc_4.2.2 (inb_of S_tc_4 ⟨by decide, by decide⟩) (H_tc_4.at (inb_of S_tc_4 ⟨by decide, by decide⟩) rfl) (g := (mkF m 19 #[vr tc, vi 1, vi 3, vr t1, vi 1] [(.int 1), (.ref tc), (.int 1), (.ref t1)])) rfl rfl (hb hby d_jdk_52_14_19)) ?_
  obtain ⟨_, T5, h5, L5, X5, e5, hQ5, st5⟩ := callC X3 hx hZ hown (wq hw 95 rfl) (wq hw 96 rfl) (wq hw 22 rfl) (wq hw 97 rfl) (by decide) (kc := 0) (ks := 0) (Con.sb (W := 0) (rm_putC3_1 l hD t1 x1 k1 x0 O0 V3 ge_t1) hZ (wq hw 97 rfl) (wq hw 22 rfl) (by decide) (by decide)) e3 (g := (mkF m 20 #[vr tc, vi 1, vi 3, vr t1, vi 1] [(.int x1), (.int 1), (.ref t1)])) rfl (by rw [hml]; rfl) (argsL := [(.ref t1), (.int 1), (.int x1)]) (rest := []) (lenOf pd_3 rfl) rfl (by show 2 * 0 + _ ≤ _; exact Nat.le_of_eq rfl) (hb hby d_jdk_52_14_20) (by decide) (by decide)
  obtain ⟨rfl, Nq5, Kq5, V5⟩ := hQ5
  refine OEnds.st st5 ?_
  replace N0 := Fr.app N0 Nq5
  replace V_tc := V_tc.keep Kq5 (ninS ne_tc_t1 nin0)
  replace O0 : Ext Z.heap h5 := ext_keep O0 Kq5 (allS ge_t1 all0)
  replace K0 : Keep h0 h5 [] := K0.trans Kq5 (allS (Or.inr sz_t1) all0)
  refine OEnds.st (S' := T5.setTop (mkF m 19 #[vr tc, vi 2, vi 3, vr t1, vi 2] [(.int 2), (.ref tc), (.int 2), (.ref t1)])) (fun _ k => ?_) ?_
  · refine XS.iinc X5.here hx rfl (hb hby d_jdk_52_14_23) rfl (l' := #[vr tc, vi 2, vi 3, vr t1, vi 1]) rfl ?_
    refine XS.iinc X5.here hx rfl (hb hby d_jdk_52_14_26) rfl (l' := #[vr tc, vi 2, vi 3, vr t1, vi 2]) rfl ?_
    refine XS.goto X5.here hx rfl (pc0 := 29) (pc' := 8) rfl (hb hby d_jdk_52_14_29) (by decide) (by decide) ?_
    refine XS.iload X5.here hx rfl (hb hby d_jdk_52_14_8) rfl ?_
    show Steps p.tables e below (T5.setTop (mkF m 10 #[vr tc, vi 2, vi 3, vr t1, vi 2] [(.int 2)])) _
    refine XS.iloadN X5.here hx rfl (hb hby d_jdk_52_14_10) rfl ?_
    refine XS.icmpNo X5.here hx rfl (hb hby d_jdk_52_14_11) rfl (tlt (by decide)).2.1 ?_
    refine XS.aloadN X5.here hx rfl (hb hby d_jdk_52_14_14) rfl rfl ?_
    refine XS.iload X5.here hx rfl (hb hby d_jdk_52_14_15) rfl ?_
    show Steps p.tables e below (T5.setTop (mkF m 17 #[vr tc, vi 2, vi 3, vr t1, vi 2] [(.int 2), (.ref t1)])) _
    refine XS.aloadN X5.here hx rfl (hb hby d_jdk_52_14_17) rfl rfl ?_
    refine XS.iloadN X5.here hx rfl (hb hby d_jdk_52_14_18) rfl ?_
    exact k
  obtain ⟨cl_tc_6, Ar_tc_6, q_tc_6, S_tc_6, N_tc_6, H_tc_6, G_tc_6⟩ := id V_tc
  refine OEnds.st (S' := T5.setTop (mkF m 20 #[vr tc, vi 2, vi 3, vr t1, vi 2] [(.int x2), (.int 2), (.ref t1)])) (X5.caload hx (j := (2 : Int32)) (v := (.int x2)) (by rw [e5]; exact Ar_tc_6.1) (State.isArrayOf_alike hZ.alike Ar_tc_6.2.1) Ar_tc_6.2.2 (inb_of S_tc_6 ⟨by decide, by decide⟩) (H_tc_6.at (inb_of S_tc_6 ⟨by decide, by decide⟩) rfl) (g := (mkF m 19 #[vr tc, vi 2, vi 3, vr t1, vi 2] [(.int 2), (.ref tc), (.int 2), (.ref t1)])) rfl rfl (hb hby d_jdk_52_14_19)) ?_
  obtain ⟨_, T7, h7, L7, X7, e7, hQ7, st7⟩ := callC X5 hx hZ hown (wq hw 95 rfl) (wq hw 96 rfl) (wq hw 22 rfl) (wq hw 97 rfl) (by decide) (kc := 0) (ks := 0) (Con.sb (W := 0) (rm_putC3_2 l hD t1 x2 k1 x0 x1 O0 V5 ge_t1) hZ (wq hw 97 rfl) (wq hw 22 rfl) (by decide) (by decide)) e5 (g := (mkF m 20 #[vr tc, vi 2, vi 3, vr t1, vi 2] [(.int x2), (.int 2), (.ref t1)])) rfl (by rw [hml]; rfl) (argsL := [(.ref t1), (.int 2), (.int x2)]) (rest := []) (lenOf pd_3 rfl) rfl (by show 2 * 0 + _ ≤ _; exact Nat.le_of_eq rfl) (hb hby d_jdk_52_14_20) (by decide) (by decide)
  obtain ⟨rfl, Nq7, Kq7, V7⟩ := hQ7
  refine OEnds.st st7 ?_
  replace N0 := Fr.app N0 Nq7
  replace V_tc := V_tc.keep Kq7 (ninS ne_tc_t1 nin0)
  replace O0 : Ext Z.heap h7 := ext_keep O0 Kq7 (allS ge_t1 all0)
  replace K0 : Keep h0 h7 [] := K0.trans Kq7 (allS (Or.inr sz_t1) all0)
  refine OEnds.st (S' := T7.setTop (mkF m 33 #[vr tc, vi 3, vi 3, vr t1, vi 3] [(.ref t1)])) (fun _ k => ?_) ?_
  · refine XS.iinc X7.here hx rfl (hb hby d_jdk_52_14_23) rfl (l' := #[vr tc, vi 3, vi 3, vr t1, vi 2]) rfl ?_
    refine XS.iinc X7.here hx rfl (hb hby d_jdk_52_14_26) rfl (l' := #[vr tc, vi 3, vi 3, vr t1, vi 3]) rfl ?_
    refine XS.goto X7.here hx rfl (pc0 := 29) (pc' := 8) rfl (hb hby d_jdk_52_14_29) (by decide) (by decide) ?_
    refine XS.iload X7.here hx rfl (hb hby d_jdk_52_14_8) rfl ?_
    show Steps p.tables e below (T7.setTop (mkF m 10 #[vr tc, vi 3, vi 3, vr t1, vi 3] [(.int 3)])) _
    refine XS.iloadN X7.here hx rfl (hb hby d_jdk_52_14_10) rfl ?_
    refine XS.icmpYes X7.here hx rfl (pc0 := 11) (pc' := 32) rfl (hb hby d_jdk_52_14_11) rfl (flt (by decide)).2.1 (by decide) (by decide) ?_
    refine XS.aloadN X7.here hx rfl (hb hby d_jdk_52_14_32) rfl rfl ?_
    exact k
  exact OEnds.ret X7 hx hret hlk rfl (Or.inr (Or.inr (Or.inr (Or.inr ⟨rfl, rfl, rfl⟩)))) (hb hby d_jdk_52_14_33) (by decide) (by decide) (by rw [e7]; exact ⟨t1, _, rfl, N0, K0, sz_t1, V7⟩)
-- java/lang/StringUTF16.compress:([CII)[B
def Q_comp3_3 (Z : State) (tc : Addr) (kc : ClassId) (x0 x1 x2 : Int32) (h0 : Heap) (v : Option Value) (h : Heap) (L : List Loc) : Prop := ∃ (t : Addr) (k : ClassId), v = some (.ref t) ∧ Fr Z.heap.size L ∧ Keep h0 h [] ∧ h0.size ≤ t ∧ ((¬ (255 : Int32) < x0 ∧ ¬ (255 : Int32) < x1 ∧ ¬ (255 : Int32) < x2 ∧ Arv Z h t k .byte (3 : Int32) [(.int (x0.toInt8.toInt32)), (.int (x1.toInt8.toInt32)), (.int (x2.toInt8.toInt32))] (.int 0)) ∨ Arv Z h t k .byte (6 : Int32) [(.int (x0.toInt8.toInt32)), (.int ((x0 >>> ((8 : Int32) &&& 31)).toInt8.toInt32)), (.int (x1.toInt8.toInt32)), (.int ((x1 >>> ((8 : Int32) &&& 31)).toInt8.toInt32)), (.int (x2.toInt8.toInt32)), (.int ((x2 >>> ((8 : Int32) &&& 31)).toInt8.toInt32))] (.int 0))
theorem ef_comp3_3 (m : MethodId) (tc : Addr) : entryFrame m #[(.ref tc), (.int 0), (.int 3)] 6 = mkF m 0 #[vr tc, vi 0, vi 3, .unset, .unset, .unset] [] := by first | (simp [entryFrame, mkF, argsToLocals, Value.category, vi, vj, vr]; done) | rfl
set_option maxRecDepth 65536 in
set_option maxHeartbeats 40000000 in
theorem rm_comp3_3 (l : Launch) {Z : State} {a0 : Array Value} (hD : Wd Z a0) (tc : Addr) (kc : ClassId) (x0 x1 x2 : Int32) {h0 : Heap} (O0 : Ext Z.heap h0) (V_tc : Arv Z h0 tc kc .char (3 : Int32) [(.int x0), (.int x1), (.int x2)] (.int 0)) (hx0 : ¬ x0 < 0 ∧ ¬ (65535 : Int32) < x0) (hx1 : ¬ x1 < 0 ∧ ¬ (65535 : Int32) < x1) (hx2 : ¬ x2 < 0 ∧ ¬ (65535 : Int32) < x2) :
    Con l Z (⟨"java/lang/StringUTF16", "compress", "([CII)[B"⟩ : MethodName) jdk_52_method_16_code 6 (some (.array .byte)) [] ({ frames := 3, cells := 2, slots := 9, locals := 40 } : Room) #[(.ref tc), (.int 0), (.int 3)] h0 (Q_comp3_3 Z tc kc x0 x1 x2 h0) := by
  refine Con.walk (plainFor_of_name pn_4) ?_
  intro p e s m below meth c T0 X0 hx hZ hby hml hown hnm hret hlk e0
  obtain ⟨hw, ⟨cz, S_CS, hcz⟩, ⟨sf, S_SF, hsf⟩, S_AD, S_HI, S_LO⟩ := id hD
  have N0 := Fr.nil Z.heap.size
  have K0 : Keep h0 h0 [] := Keep.refl _ _
  refine OEnds.cast (ef_comp3_3 m tc) ?_
  refine OEnds.st (S' := T0.setTop (mkF m 1 #[vr tc, vi 0, vi 3, .unset, .unset, .unset] [(.int 3)])) (fun _ k => ?_) ?_
  · refine XS.iloadN X0.here hx rfl (hb hby d_jdk_52_16_0) rfl ?_
    exact k
  obtain ⟨T1, h1, k1, X1, e1, E1, A1, st1⟩ := newP X0 hx hZ (wq hw 24 rfl) e0 (g := (mkF m 1 #[vr tc, vi 0, vi 3, .unset, .unset, .unset] [(.int 3)])) rfl (hb hby d_jdk_52_16_1) rfl (by decide) (cap := 3) (by decide) (by decide) (by decide) (by decide)
  obtain ⟨b1, g1⟩ : ∃ z, z = h0.size := ⟨_, rfl⟩
  rw [← g1] at A1 st1
  refine OEnds.st st1 ?_
  have ne_tc_b1 : tc ≠ b1 := Nat.ne_of_lt (Nat.lt_of_lt_of_le V_tc.lt (Nat.le_of_eq g1.symm))
  have ge_b1 : Z.heap.size ≤ b1 := Nat.le_trans O0.1 (Nat.le_of_eq g1.symm)
  have sz_b1 : h0.size ≤ b1 := Nat.le_trans K0.1 (Nat.le_of_eq g1.symm)
  replace V_tc := V_tc.ext E1
  replace O0 : Ext Z.heap h1 := ext_trans O0 E1
  replace K0 : Keep h0 h1 [] := K0.ext E1
  have V_b1 : Arv Z h1 b1 k1 .byte (3 : Int32) [(.int 0), (.int 0), (.int 0)] (.int 0) := (Arv.new A1 (by decide)).pad (pad_rep [] (.int 0) 3)
  refine OEnds.st (S' := T1.setTop (mkF m 9 #[vr tc, vi 0, vi 3, vr b1, .unset, .unset] [(.int 3), (.int 0), (.ref b1), (.int 0), (.ref tc)])) (fun _ k => ?_) ?_
  · refine XS.astoreN X1.here hx rfl (hb hby d_jdk_52_16_3) rfl rfl (l' := #[vr tc, vi 0, vi 3, vr b1, .unset, .unset]) rfl ?_
    refine XS.aloadN X1.here hx rfl (hb hby d_jdk_52_16_4) rfl rfl ?_
    refine XS.iloadN X1.here hx rfl (hb hby d_jdk_52_16_5) rfl ?_
    refine XS.aloadN X1.here hx rfl (hb hby d_jdk_52_16_6) rfl rfl ?_
    show Steps p.tables e below (T1.setTop (mkF m 7 #[vr tc, vi 0, vi 3, vr b1, .unset, .unset] [(.ref b1), (.int 0), (.ref tc)])) _
    refine XS.iconst X1.here hx rfl (hb hby d_jdk_52_16_7) ?_
    refine XS.iloadN X1.here hx rfl (hb hby d_jdk_52_16_8) rfl ?_
    exact k
  obtain ⟨_, T2, h2, L2, X2, e2, hQ2, st2⟩ := callC X1 hx hZ hown (wq hw 25 rfl) (wq hw 26 rfl) (wq hw 22 rfl) (wq hw 27 rfl) (by decide) (kc := 0) (ks := 0) (Con.sb (W := 0) (rm_comp2_3 l hD tc b1 kc k1 x0 x1 x2 O0 V_tc V_b1 ge_b1 ne_tc_b1) hZ (wq hw 27 rfl) (wq hw 22 rfl) (by decide) (by decide)) e1 (g := (mkF m 9 #[vr tc, vi 0, vi 3, vr b1, .unset, .unset] [(.int 3), (.int 0), (.ref b1), (.int 0), (.ref tc)])) rfl (by rw [hml]; rfl) (argsL := [(.ref tc), (.int 0), (.ref b1), (.int 0), (.int 3)]) (rest := []) (lenOf pd_4 rfl) rfl (by show 2 * 0 + _ ≤ _; exact Nat.le_of_eq rfl) (hb hby d_jdk_52_16_9) (by decide) (by decide)
  obtain ⟨r2, rfl, Nq2, Kq2, hr2⟩ := hQ2
  refine OEnds.st st2 ?_
  replace N0 := Fr.app N0 Nq2
  replace V_tc := V_tc.keep Kq2 (ninS ne_tc_b1 nin0)
  replace O0 : Ext Z.heap h2 := ext_keep O0 Kq2 (allS ge_b1 all0)
  replace K0 : Keep h0 h2 [] := K0.trans Kq2 (allS (Or.inr sz_b1) all0)
  rcases hr2 with ⟨rfl, g0, g1, g2, Vt⟩ | ⟨rfl, gg⟩ | ⟨rfl, gg⟩ | ⟨rfl, gg⟩
  · refine OEnds.st (S' := T2.setTop (mkF m 58 #[vr tc, vi 0, vi 3, vr b1, vi 3, .unset] [(.ref b1)])) (fun _ k => ?_) ?_
    · refine XS.istore X2.here hx rfl (hb hby d_jdk_52_16_12) rfl (l' := #[vr tc, vi 0, vi 3, vr b1, vi 3, .unset]) rfl ?_
      refine XS.iload X2.here hx rfl (hb hby d_jdk_52_16_14) rfl ?_
      refine XS.iloadN X2.here hx rfl (hb hby d_jdk_52_16_16) rfl ?_
      refine XS.icmpYes X2.here hx rfl (pc0 := 17) (pc' := 57) rfl (hb hby d_jdk_52_16_17) rfl (teq (by decide)).1 (by decide) (by decide) ?_
      show Steps p.tables e below (T2.setTop (mkF m 57 #[vr tc, vi 0, vi 3, vr b1, vi 3, .unset] [])) _
      refine XS.aloadN X2.here hx rfl (hb hby d_jdk_52_16_57) rfl rfl ?_
      exact k
    exact OEnds.ret X2 hx hret hlk rfl (Or.inr (Or.inr (Or.inr (Or.inr ⟨rfl, rfl, rfl⟩)))) (hb hby d_jdk_52_16_58) (by decide) (by decide) (by rw [e2]; exact ⟨b1, _, rfl, N0, K0, sz_b1, Or.inl ⟨g0, g1, g2, Vt⟩⟩)
  · refine OEnds.st (S' := T2.setTop (mkF m 23 #[vr tc, vi 0, vi 3, vr b1, vi 0, .unset] [(.int 3), (.int 0), (.ref tc)])) (fun _ k => ?_) ?_
    · refine XS.istore X2.here hx rfl (hb hby d_jdk_52_16_12) rfl (l' := #[vr tc, vi 0, vi 3, vr b1, vi 0, .unset]) rfl ?_
      refine XS.iload X2.here hx rfl (hb hby d_jdk_52_16_14) rfl ?_
      refine XS.iloadN X2.here hx rfl (hb hby d_jdk_52_16_16) rfl ?_
      refine XS.icmpNo X2.here hx rfl (hb hby d_jdk_52_16_17) rfl (feq (by decide)).1 ?_
      show Steps p.tables e below (T2.setTop (mkF m 20 #[vr tc, vi 0, vi 3, vr b1, vi 0, .unset] [])) _
      refine XS.aloadN X2.here hx rfl (hb hby d_jdk_52_16_20) rfl rfl ?_
      refine XS.iloadN X2.here hx rfl (hb hby d_jdk_52_16_21) rfl ?_
      refine XS.iloadN X2.here hx rfl (hb hby d_jdk_52_16_22) rfl ?_
      exact k
    obtain ⟨_, T3, h3, L3, X3, e3, hQ3, st3⟩ := callC X2 hx hZ hown (wq hw 85 rfl) (wq hw 86 rfl) (wq hw 22 rfl) (wq hw 87 rfl) (by decide) (kc := 1) (ks := 6) (Con.sb (W := 0) (rm_toB3 l hD tc kc x0 x1 x2 O0 V_tc) hZ (wq hw 87 rfl) (wq hw 22 rfl) (by decide) (by decide)) e2 (g := (mkF m 23 #[vr tc, vi 0, vi 3, vr b1, vi 0, .unset] [(.int 3), (.int 0), (.ref tc)])) rfl (by rw [hml]; rfl) (argsL := [(.ref tc), (.int 0), (.int 3)]) (rest := []) (lenOf pd_5 rfl) rfl (by show 2 * 0 + _ ≤ _; exact Nat.le_of_eq rfl) (hb hby d_jdk_52_16_23) (by decide) (by decide)
    obtain ⟨t3, k3, rfl, Nq3, Kq3, szq3, V3⟩ := hQ3
    refine OEnds.st st3 ?_
    replace N0 := Fr.app N0 Nq3
    have ne_tc_t3 : tc ≠ t3 := Nat.ne_of_lt (Nat.lt_of_lt_of_le V_tc.lt szq3)
    have ge_t3 : Z.heap.size ≤ t3 := Nat.le_trans O0.1 szq3
    have sz_t3 : h0.size ≤ t3 := Nat.le_trans K0.1 szq3
    replace V_tc := V_tc.keep Kq3 nin0
    replace O0 : Ext Z.heap h3 := ext_keep O0 Kq3 all0
    replace K0 : Keep h0 h3 [] := K0.trans Kq3 all0
    refine OEnds.st (S' := T3.setTop (mkF m 32 #[vr tc, vi 0, vi 3, vr b1, vi 0, vr t3] [(.int 0), (.ref t3)])) (fun _ k => ?_) ?_
    · refine XS.astore X3.here hx rfl (hb hby d_jdk_52_16_26) rfl rfl (l' := #[vr tc, vi 0, vi 3, vr b1, vi 0, vr t3]) rfl ?_
      refine XS.aload X3.here hx rfl (hb hby d_jdk_52_16_28) rfl rfl ?_
      refine XS.iload X3.here hx rfl (hb hby d_jdk_52_16_30) rfl ?_
      exact k
    obtain ⟨_, T4, h4, L4, X4, e4, hQ4, st4⟩ := callC X3 hx hZ hown (wq hw 101 rfl) (wq hw 102 rfl) (wq hw 22 rfl) (wq hw 103 rfl) (by decide) (kc := 0) (ks := 0) (Con.sb (W := 0) (rm_getC3_0 l hD t3 k3 x0 x1 x2 O0 V3 hx0) hZ (wq hw 103 rfl) (wq hw 22 rfl) (by decide) (by decide)) e3 (g := (mkF m 32 #[vr tc, vi 0, vi 3, vr b1, vi 0, vr t3] [(.int 0), (.ref t3)])) rfl (by rw [hml]; rfl) (argsL := [(.ref t3), (.int 0)]) (rest := []) (lenOf pd_6 rfl) rfl (by show 2 * 0 + _ ≤ _; exact Nat.le_of_eq rfl) (hb hby d_jdk_52_16_32) (by decide) (by decide)
    obtain ⟨rfl, Nq4, Hq4⟩ := hQ4
    refine OEnds.st st4 ?_
    replace N0 := Fr.app N0 Nq4
    replace e4 := e4.trans Hq4
    refine OEnds.st (S' := T4.setTop (mkF m 56 #[vr tc, vi 0, vi 3, vr b1, vi 0, vr t3] [(.ref t3)])) (fun _ k => ?_) ?_
    · refine XS.sipush X4.here hx rfl (hb hby d_jdk_52_16_35) ?_
      refine XS.icmpYes X4.here hx rfl (pc0 := 38) (pc' := 54) rfl (hb hby d_jdk_52_16_38) rfl (tlt gg).2.2.1 (by decide) (by decide) ?_
      refine XS.aload X4.here hx rfl (hb hby d_jdk_52_16_54) rfl rfl ?_
      exact k
    exact OEnds.ret X4 hx hret hlk rfl (Or.inr (Or.inr (Or.inr (Or.inr ⟨rfl, rfl, rfl⟩)))) (hb hby d_jdk_52_16_56) (by decide) (by decide) (by rw [e4]; exact ⟨t3, _, rfl, N0, K0, sz_t3, Or.inr V3⟩)
  · refine OEnds.st (S' := T2.setTop (mkF m 23 #[vr tc, vi 0, vi 3, vr b1, vi 1, .unset] [(.int 3), (.int 0), (.ref tc)])) (fun _ k => ?_) ?_
    · refine XS.istore X2.here hx rfl (hb hby d_jdk_52_16_12) rfl (l' := #[vr tc, vi 0, vi 3, vr b1, vi 1, .unset]) rfl ?_
      refine XS.iload X2.here hx rfl (hb hby d_jdk_52_16_14) rfl ?_
      refine XS.iloadN X2.here hx rfl (hb hby d_jdk_52_16_16) rfl ?_
      refine XS.icmpNo X2.here hx rfl (hb hby d_jdk_52_16_17) rfl (feq (by decide)).1 ?_
      show Steps p.tables e below (T2.setTop (mkF m 20 #[vr tc, vi 0, vi 3, vr b1, vi 1, .unset] [])) _
      refine XS.aloadN X2.here hx rfl (hb hby d_jdk_52_16_20) rfl rfl ?_
      refine XS.iloadN X2.here hx rfl (hb hby d_jdk_52_16_21) rfl ?_
      refine XS.iloadN X2.here hx rfl (hb hby d_jdk_52_16_22) rfl ?_
      exact k
    obtain ⟨_, T3, h3, L3, X3, e3, hQ3, st3⟩ := callC X2 hx hZ hown (wq hw 85 rfl) (wq hw 86 rfl) (wq hw 22 rfl) (wq hw 87 rfl) (by decide) (kc := 1) (ks := 6) (Con.sb (W := 0) (rm_toB3 l hD tc kc x0 x1 x2 O0 V_tc) hZ (wq hw 87 rfl) (wq hw 22 rfl) (by decide) (by decide)) e2 (g := (mkF m 23 #[vr tc, vi 0, vi 3, vr b1, vi 1, .unset] [(.int 3), (.int 0), (.ref tc)])) rfl (by rw [hml]; rfl) (argsL := [(.ref tc), (.int 0), (.int 3)]) (rest := []) (lenOf pd_5 rfl) rfl (by show 2 * 0 + _ ≤ _; exact Nat.le_of_eq rfl) (hb hby d_jdk_52_16_23) (by decide) (by decide)
    obtain ⟨t3, k3, rfl, Nq3, Kq3, szq3, V3⟩ := hQ3
    refine OEnds.st st3 ?_
    replace N0 := Fr.app N0 Nq3
    have ne_tc_t3 : tc ≠ t3 := Nat.ne_of_lt (Nat.lt_of_lt_of_le V_tc.lt szq3)
    have ge_t3 : Z.heap.size ≤ t3 := Nat.le_trans O0.1 szq3
    have sz_t3 : h0.size ≤ t3 := Nat.le_trans K0.1 szq3
    replace V_tc := V_tc.keep Kq3 nin0
    replace O0 : Ext Z.heap h3 := ext_keep O0 Kq3 all0
    replace K0 : Keep h0 h3 [] := K0.trans Kq3 all0
    refine OEnds.st (S' := T3.setTop (mkF m 32 #[vr tc, vi 0, vi 3, vr b1, vi 1, vr t3] [(.int 1), (.ref t3)])) (fun _ k => ?_) ?_
    · refine XS.astore X3.here hx rfl (hb hby d_jdk_52_16_26) rfl rfl (l' := #[vr tc, vi 0, vi 3, vr b1, vi 1, vr t3]) rfl ?_
      refine XS.aload X3.here hx rfl (hb hby d_jdk_52_16_28) rfl rfl ?_
      refine XS.iload X3.here hx rfl (hb hby d_jdk_52_16_30) rfl ?_
      exact k
    obtain ⟨_, T4, h4, L4, X4, e4, hQ4, st4⟩ := callC X3 hx hZ hown (wq hw 101 rfl) (wq hw 102 rfl) (wq hw 22 rfl) (wq hw 103 rfl) (by decide) (kc := 0) (ks := 0) (Con.sb (W := 0) (rm_getC3_1 l hD t3 k3 x0 x1 x2 O0 V3 hx1) hZ (wq hw 103 rfl) (wq hw 22 rfl) (by decide) (by decide)) e3 (g := (mkF m 32 #[vr tc, vi 0, vi 3, vr b1, vi 1, vr t3] [(.int 1), (.ref t3)])) rfl (by rw [hml]; rfl) (argsL := [(.ref t3), (.int 1)]) (rest := []) (lenOf pd_6 rfl) rfl (by show 2 * 0 + _ ≤ _; exact Nat.le_of_eq rfl) (hb hby d_jdk_52_16_32) (by decide) (by decide)
    obtain ⟨rfl, Nq4, Hq4⟩ := hQ4
    refine OEnds.st st4 ?_
    replace N0 := Fr.app N0 Nq4
    replace e4 := e4.trans Hq4
    refine OEnds.st (S' := T4.setTop (mkF m 56 #[vr tc, vi 0, vi 3, vr b1, vi 1, vr t3] [(.ref t3)])) (fun _ k => ?_) ?_
    · refine XS.sipush X4.here hx rfl (hb hby d_jdk_52_16_35) ?_
      refine XS.icmpYes X4.here hx rfl (pc0 := 38) (pc' := 54) rfl (hb hby d_jdk_52_16_38) rfl (tlt gg).2.2.1 (by decide) (by decide) ?_
      refine XS.aload X4.here hx rfl (hb hby d_jdk_52_16_54) rfl rfl ?_
      exact k
    exact OEnds.ret X4 hx hret hlk rfl (Or.inr (Or.inr (Or.inr (Or.inr ⟨rfl, rfl, rfl⟩)))) (hb hby d_jdk_52_16_56) (by decide) (by decide) (by rw [e4]; exact ⟨t3, _, rfl, N0, K0, sz_t3, Or.inr V3⟩)
  · refine OEnds.st (S' := T2.setTop (mkF m 23 #[vr tc, vi 0, vi 3, vr b1, vi 2, .unset] [(.int 3), (.int 0), (.ref tc)])) (fun _ k => ?_) ?_
    · refine XS.istore X2.here hx rfl (hb hby d_jdk_52_16_12) rfl (l' := #[vr tc, vi 0, vi 3, vr b1, vi 2, .unset]) rfl ?_
      refine XS.iload X2.here hx rfl (hb hby d_jdk_52_16_14) rfl ?_
      refine XS.iloadN X2.here hx rfl (hb hby d_jdk_52_16_16) rfl ?_
      refine XS.icmpNo X2.here hx rfl (hb hby d_jdk_52_16_17) rfl (feq (by decide)).1 ?_
      show Steps p.tables e below (T2.setTop (mkF m 20 #[vr tc, vi 0, vi 3, vr b1, vi 2, .unset] [])) _
      refine XS.aloadN X2.here hx rfl (hb hby d_jdk_52_16_20) rfl rfl ?_
      refine XS.iloadN X2.here hx rfl (hb hby d_jdk_52_16_21) rfl ?_
      refine XS.iloadN X2.here hx rfl (hb hby d_jdk_52_16_22) rfl ?_
      exact k
    obtain ⟨_, T3, h3, L3, X3, e3, hQ3, st3⟩ := callC X2 hx hZ hown (wq hw 85 rfl) (wq hw 86 rfl) (wq hw 22 rfl) (wq hw 87 rfl) (by decide) (kc := 1) (ks := 6) (Con.sb (W := 0) (rm_toB3 l hD tc kc x0 x1 x2 O0 V_tc) hZ (wq hw 87 rfl) (wq hw 22 rfl) (by decide) (by decide)) e2 (g := (mkF m 23 #[vr tc, vi 0, vi 3, vr b1, vi 2, .unset] [(.int 3), (.int 0), (.ref tc)])) rfl (by rw [hml]; rfl) (argsL := [(.ref tc), (.int 0), (.int 3)]) (rest := []) (lenOf pd_5 rfl) rfl (by show 2 * 0 + _ ≤ _; exact Nat.le_of_eq rfl) (hb hby d_jdk_52_16_23) (by decide) (by decide)
    obtain ⟨t3, k3, rfl, Nq3, Kq3, szq3, V3⟩ := hQ3
    refine OEnds.st st3 ?_
    replace N0 := Fr.app N0 Nq3
    have ne_tc_t3 : tc ≠ t3 := Nat.ne_of_lt (Nat.lt_of_lt_of_le V_tc.lt szq3)
    have ge_t3 : Z.heap.size ≤ t3 := Nat.le_trans O0.1 szq3
    have sz_t3 : h0.size ≤ t3 := Nat.le_trans K0.1 szq3
    replace V_tc := V_tc.keep Kq3 nin0
    replace O0 : Ext Z.heap h3 := ext_keep O0 Kq3 all0
    replace K0 : Keep h0 h3 [] := K0.trans Kq3 all0
    refine OEnds.st (S' := T3.setTop (mkF m 32 #[vr tc, vi 0, vi 3, vr b1, vi 2, vr t3] [(.int 2), (.ref t3)])) (fun _ k => ?_) ?_
    · refine XS.astore X3.here hx rfl (hb hby d_jdk_52_16_26) rfl rfl (l' := #[vr tc, vi 0, vi 3, vr b1, vi 2, vr t3]) rfl ?_
      refine XS.aload X3.here hx rfl (hb hby d_jdk_52_16_28) rfl rfl ?_
      refine XS.iload X3.here hx rfl (hb hby d_jdk_52_16_30) rfl ?_
      exact k
    obtain ⟨_, T4, h4, L4, X4, e4, hQ4, st4⟩ := callC X3 hx hZ hown (wq hw 101 rfl) (wq hw 102 rfl) (wq hw 22 rfl) (wq hw 103 rfl) (by decide) (kc := 0) (ks := 0) (Con.sb (W := 0) (rm_getC3_2 l hD t3 k3 x0 x1 x2 O0 V3 hx2) hZ (wq hw 103 rfl) (wq hw 22 rfl) (by decide) (by decide)) e3 (g := (mkF m 32 #[vr tc, vi 0, vi 3, vr b1, vi 2, vr t3] [(.int 2), (.ref t3)])) rfl (by rw [hml]; rfl) (argsL := [(.ref t3), (.int 2)]) (rest := []) (lenOf pd_6 rfl) rfl (by show 2 * 0 + _ ≤ _; exact Nat.le_of_eq rfl) (hb hby d_jdk_52_16_32) (by decide) (by decide)
    obtain ⟨rfl, Nq4, Hq4⟩ := hQ4
    refine OEnds.st st4 ?_
    replace N0 := Fr.app N0 Nq4
    replace e4 := e4.trans Hq4
    refine OEnds.st (S' := T4.setTop (mkF m 56 #[vr tc, vi 0, vi 3, vr b1, vi 2, vr t3] [(.ref t3)])) (fun _ k => ?_) ?_
    · refine XS.sipush X4.here hx rfl (hb hby d_jdk_52_16_35) ?_
      refine XS.icmpYes X4.here hx rfl (pc0 := 38) (pc' := 54) rfl (hb hby d_jdk_52_16_38) rfl (tlt gg).2.2.1 (by decide) (by decide) ?_
      refine XS.aload X4.here hx rfl (hb hby d_jdk_52_16_54) rfl rfl ?_
      exact k
    exact OEnds.ret X4 hx hret hlk rfl (Or.inr (Or.inr (Or.inr (Or.inr ⟨rfl, rfl, rfl⟩)))) (hb hby d_jdk_52_16_56) (by decide) (by decide) (by rw [e4]; exact ⟨t3, _, rfl, N0, K0, sz_t3, Or.inr V3⟩)
-- java/lang/StringUTF16.coderFromArrayLen:([BI)B
def Q_cal3_0 (Z : State) (t : Addr) (k : ClassId) (us : List Value) (h0 : Heap) (v : Option Value) (h : Heap) (L : List Loc) : Prop := v = some (.int 0) ∧ Fr Z.heap.size L ∧ h = h0
theorem ef_cal3_0 (m : MethodId) (t : Addr) : entryFrame m #[(.ref t), (.int 3)] 2 = mkF m 0 #[vr t, vi 3] [] := by first | (simp [entryFrame, mkF, argsToLocals, Value.category, vi, vj, vr]; done) | rfl
set_option maxRecDepth 65536 in
set_option maxHeartbeats 40000000 in
theorem rm_cal3_0 (l : Launch) {Z : State} {a0 : Array Value} (hD : Wd Z a0) (t : Addr) (k : ClassId) (us : List Value) {h0 : Heap} (O0 : Ext Z.heap h0) (V_t : Arv Z h0 t k .byte (3 : Int32) us (.int 0)) :
    Con l Z (⟨"java/lang/StringUTF16", "coderFromArrayLen", "([BI)B"⟩ : MethodName) jdk_52_method_15_code 2 (some .byte) [] ({ frames := 0, cells := 0, slots := 0, locals := 0 } : Room) #[(.ref t), (.int 3)] h0 (Q_cal3_0 Z t k us h0) := by
  refine Con.walk (plainFor_of_name pn_4) ?_
  intro p e s m below meth c T0 X0 hx hZ hby hml hown hnm hret hlk e0
  obtain ⟨hw, ⟨cz, S_CS, hcz⟩, ⟨sf, S_SF, hsf⟩, S_AD, S_HI, S_LO⟩ := id hD
  have N0 := Fr.nil Z.heap.size
  refine OEnds.cast (ef_cal3_0 m t) ?_
  refine OEnds.st (S' := T0.setTop (mkF m 2 #[vr t, vi 3] [(.ref t), (.int 3)])) (fun _ k => ?_) ?_
  · refine XS.iloadN X0.here hx rfl (hb hby d_jdk_52_15_0) rfl ?_
    refine XS.aloadN X0.here hx rfl (hb hby d_jdk_52_15_1) rfl rfl ?_
    exact k
  obtain ⟨cl_t_1, Ar_t_1, q_t_1, S_t_1, N_t_1, H_t_1, G_t_1⟩ := id V_t
  refine OEnds.st (S' := T0.setTop (mkF m 3 #[vr t, vi 3] [(.int 3), (.int 3)])) (fun tg kq9 => X0.arraylength hx (by rw [e0]; exact Ar_t_1.1) (State.isArrayOf_alike hZ.alike Ar_t_1.2.1) (g := (mkF m 2 #[vr t, vi 3] [(.ref t), (.int 3)])) rfl rfl (hb hby d_jdk_52_15_2) tg (by rw [len_of S_t_1 N_t_1]; exact kq9)) ?_
  refine OEnds.st (S' := T0.setTop (mkF m 8 #[vr t, vi 3] [(.int 0)])) (fun _ k => ?_) ?_
  · refine XS.isub X0.here hx rfl (hb hby d_jdk_52_15_3) rfl ?_
    refine XS.bipush X0.here hx rfl (hb hby d_jdk_52_15_4) ?_
    refine XS.iushr X0.here hx rfl (hb hby d_jdk_52_15_6) rfl ?_
    refine XS.i2b X0.here hx rfl (hb hby d_jdk_52_15_7) rfl ?_
    exact k
  exact OEnds.ret X0 hx hret hlk (by decide) (Or.inl ⟨rfl, by simp, _, rfl⟩) (hb hby d_jdk_52_15_8) (by decide) (by decide) (by rw [e0]; exact ⟨rfl, N0, rfl⟩)
-- java/lang/StringUTF16.coderFromArrayLen:([BI)B
def Q_cal3_1 (Z : State) (t : Addr) (k : ClassId) (us : List Value) (h0 : Heap) (v : Option Value) (h : Heap) (L : List Loc) : Prop := v = some (.int 1) ∧ Fr Z.heap.size L ∧ h = h0
theorem ef_cal3_1 (m : MethodId) (t : Addr) : entryFrame m #[(.ref t), (.int 3)] 2 = mkF m 0 #[vr t, vi 3] [] := by first | (simp [entryFrame, mkF, argsToLocals, Value.category, vi, vj, vr]; done) | rfl
set_option maxRecDepth 65536 in
set_option maxHeartbeats 40000000 in
theorem rm_cal3_1 (l : Launch) {Z : State} {a0 : Array Value} (hD : Wd Z a0) (t : Addr) (k : ClassId) (us : List Value) {h0 : Heap} (O0 : Ext Z.heap h0) (V_t : Arv Z h0 t k .byte (6 : Int32) us (.int 0)) :
    Con l Z (⟨"java/lang/StringUTF16", "coderFromArrayLen", "([BI)B"⟩ : MethodName) jdk_52_method_15_code 2 (some .byte) [] ({ frames := 0, cells := 0, slots := 0, locals := 0 } : Room) #[(.ref t), (.int 3)] h0 (Q_cal3_1 Z t k us h0) := by
  refine Con.walk (plainFor_of_name pn_4) ?_
  intro p e s m below meth c T0 X0 hx hZ hby hml hown hnm hret hlk e0
  obtain ⟨hw, ⟨cz, S_CS, hcz⟩, ⟨sf, S_SF, hsf⟩, S_AD, S_HI, S_LO⟩ := id hD
  have N0 := Fr.nil Z.heap.size
  refine OEnds.cast (ef_cal3_1 m t) ?_
  refine OEnds.st (S' := T0.setTop (mkF m 2 #[vr t, vi 3] [(.ref t), (.int 3)])) (fun _ k => ?_) ?_
  · refine XS.iloadN X0.here hx rfl (hb hby d_jdk_52_15_0) rfl ?_
    refine XS.aloadN X0.here hx rfl (hb hby d_jdk_52_15_1) rfl rfl ?_
    exact k
  obtain ⟨cl_t_1, Ar_t_1, q_t_1, S_t_1, N_t_1, H_t_1, G_t_1⟩ := id V_t
  refine OEnds.st (S' := T0.setTop (mkF m 3 #[vr t, vi 3] [(.int 6), (.int 3)])) (fun tg kq9 => X0.arraylength hx (by rw [e0]; exact Ar_t_1.1) (State.isArrayOf_alike hZ.alike Ar_t_1.2.1) (g := (mkF m 2 #[vr t, vi 3] [(.ref t), (.int 3)])) rfl rfl (hb hby d_jdk_52_15_2) tg (by rw [len_of S_t_1 N_t_1]; exact kq9)) ?_
  refine OEnds.st (S' := T0.setTop (mkF m 8 #[vr t, vi 3] [(.int 1)])) (fun _ k => ?_) ?_
  · refine XS.isub X0.here hx rfl (hb hby d_jdk_52_15_3) rfl ?_
    refine XS.bipush X0.here hx rfl (hb hby d_jdk_52_15_4) ?_
    refine XS.iushr X0.here hx rfl (hb hby d_jdk_52_15_6) rfl ?_
    refine XS.i2b X0.here hx rfl (hb hby d_jdk_52_15_7) rfl ?_
    exact k
  exact OEnds.ret X0 hx hret hlk (by decide) (Or.inl ⟨rfl, by simp, _, rfl⟩) (hb hby d_jdk_52_15_8) (by decide) (by decide) (by rw [e0]; exact ⟨rfl, N0, rfl⟩)
-- java/lang/String.<init>:([CIILjava/lang/Void;)V
def Q_strI2_3 (Z : State) (a : Addr) (tc : Addr) (kc : ClassId) (x0 x1 x2 : Int32) (h0 : Heap) (v : Option Value) (h : Heap) (L : List Loc) : Prop := v = none ∧ Fr Z.heap.size L ∧ Keep h0 h [a] ∧ Exa Z h a "java/lang/String" ∧ ∃ (t : Addr) (k : ClassId), Fld Z h a "java/lang/String" "value" "[B" (.ref t) ∧ (((¬ (255 : Int32) < x0 ∧ ¬ (255 : Int32) < x1 ∧ ¬ (255 : Int32) < x2) ∧ Fld Z h a "java/lang/String" "coder" "B" (.int 0) ∧ Arv Z h t k .byte (3 : Int32) [(.int (x0.toInt8.toInt32)), (.int (x1.toInt8.toInt32)), (.int (x2.toInt8.toInt32))] (.int 0)) ∨ (Fld Z h a "java/lang/String" "coder" "B" (.int 1) ∧ Arv Z h t k .byte (6 : Int32) [(.int (x0.toInt8.toInt32)), (.int ((x0 >>> ((8 : Int32) &&& 31)).toInt8.toInt32)), (.int (x1.toInt8.toInt32)), (.int ((x1 >>> ((8 : Int32) &&& 31)).toInt8.toInt32)), (.int (x2.toInt8.toInt32)), (.int ((x2 >>> ((8 : Int32) &&& 31)).toInt8.toInt32))] (.int 0)))
theorem ef_strI2_3 (m : MethodId) (a : Addr) (tc : Addr) : entryFrame m #[(.ref a), (.ref tc), (.int 0), (.int 3), .null] 6 = mkF m 0 #[vr a, vr tc, vi 0, vi 3, .val .null, .unset] [] := by first | (simp [entryFrame, mkF, argsToLocals, Value.category, vi, vj, vr]; done) | rfl
set_option maxRecDepth 65536 in
set_option maxHeartbeats 40000000 in
theorem rm_strI2_3 (l : Launch) {Z : State} {a0 : Array Value} (hD : Wd Z a0) (a : Addr) (tc : Addr) (kc : ClassId) (x0 x1 x2 : Int32) {h0 : Heap} (O0 : Ext Z.heap h0) (E_a : Exa Z h0 a "java/lang/String") (F_value_a : Fld Z h0 a "java/lang/String" "value" "[B" .null) (F_coder_a : Fld Z h0 a "java/lang/String" "coder" "B" (.int 0)) (ge_a : Z.heap.size ≤ a) (V_tc : Arv Z h0 tc kc .char (3 : Int32) [(.int x0), (.int x1), (.int x2)] (.int 0)) (hx0 : ¬ x0 < 0 ∧ ¬ (65535 : Int32) < x0) (hx1 : ¬ x1 < 0 ∧ ¬ (65535 : Int32) < x1) (hx2 : ¬ x2 < 0 ∧ ¬ (65535 : Int32) < x2) :
    Con l Z (⟨"java/lang/String", "<init>", "([CIILjava/lang/Void;)V"⟩ : MethodName) jdk_42_method_149_code 6 none [] ({ frames := 4, cells := 2, slots := 9, locals := 57 } : Room) #[(.ref a), (.ref tc), (.int 0), (.int 3), .null] h0 (Q_strI2_3 Z a tc kc x0 x1 x2 h0) := by
  refine Con.walk (plainFor_of_name pn_1) ?_
  intro p e s m below meth c T0 X0 hx hZ hby hml hown hnm hret hlk e0
  obtain ⟨hw, ⟨cz, S_CS, hcz⟩, ⟨sf, S_SF, hsf⟩, S_AD, S_HI, S_LO⟩ := id hD
  have N0 := Fr.nil Z.heap.size
  have K0 : Keep h0 h0 [a] := Keep.refl _ _
  have E_a0 := E_a
  refine OEnds.cast (ef_strI2_3 m a tc) ?_
  refine OEnds.st (S' := T0.setTop (mkF m 1 #[vr a, vr tc, vi 0, vi 3, .val .null, .unset] [(.ref a)])) (fun _ k => ?_) ?_
  · refine XS.aloadN X0.here hx rfl (hb hby d_jdk_42_149_0) rfl rfl ?_
    exact k
  obtain ⟨T1, X1, e1, st1⟩ := initO X0 hx hZ hown (wq hw 16 rfl) (wq hw 17 rfl) (wq hw 18 rfl) e0 (g := (mkF m 1 #[vr a, vr tc, vi 0, vi 3, .val .null, .unset] [(.ref a)])) rfl (by rw [hml]; rfl) rfl (hb hby d_jdk_42_149_1) (by decide) (W := 0) (by show 2 * 0 + _ ≤ _; exact Nat.le_of_eq rfl) (by decide)
  refine OEnds.st st1 ?_
  refine OEnds.st (S' := T1.setTop (mkF m 27 #[vr a, vr tc, vi 0, vi 3, .val .null, .unset] [])) (fun _ k => ?_) ?_
  · refine XS.iloadN X1.here hx rfl (hb hby d_jdk_42_149_4) rfl ?_
    refine XS.ifYes X1.here hx rfl (pc0 := 5) (pc' := 27) rfl (hb hby d_jdk_42_149_5) rfl ((if0 _ _).trans (feq (by decide)).2) (by decide) (by decide) ?_
    exact k
  obtain ⟨T2, X2, e2, st2⟩ := getS2 X1 hx hZ hown (host := "") (Or.inl (wq hw 19 rfl)) Via.refl e1 (S_CS.ext O0) (g := (mkF m 27 #[vr a, vr tc, vi 0, vi 3, .val .null, .unset] [])) rfl (hb hby d_jdk_42_149_27)
  refine OEnds.st st2 ?_
  refine OEnds.st (S' := T2.setTop (mkF m 36 #[vr a, vr tc, vi 0, vi 3, .val .null, .unset] [(.int 3), (.int 0), (.ref tc)])) (fun _ k => ?_) ?_
  · refine XS.ifNo X2.here hx rfl (hb hby d_jdk_42_149_30) rfl ((if0 _ _).trans (feq hcz).1) ?_
    refine XS.aloadN X2.here hx rfl (hb hby d_jdk_42_149_33) rfl rfl ?_
    refine XS.iloadN X2.here hx rfl (hb hby d_jdk_42_149_34) rfl ?_
    refine XS.iloadN X2.here hx rfl (hb hby d_jdk_42_149_35) rfl ?_
    exact k
  obtain ⟨_, T3, h3, L3, X3, e3, hQ3, st3⟩ := callC X2 hx hZ hown (wq hw 20 rfl) (wq hw 21 rfl) (wq hw 22 rfl) (wq hw 23 rfl) (by decide) (kc := 2) (ks := 9) (Con.sb (W := 0) (rm_comp3_3 l hD tc kc x0 x1 x2 O0 V_tc hx0 hx1 hx2) hZ (wq hw 23 rfl) (wq hw 22 rfl) (by decide) (by decide)) e2 (g := (mkF m 36 #[vr a, vr tc, vi 0, vi 3, .val .null, .unset] [(.int 3), (.int 0), (.ref tc)])) rfl (by rw [hml]; rfl) (argsL := [(.ref tc), (.int 0), (.int 3)]) (rest := []) (lenOf pd_5 rfl) rfl (by show 2 * 0 + _ ≤ _; exact Nat.le_of_eq rfl) (hb hby d_jdk_42_149_36) (by decide) (by decide)
  obtain ⟨t3, k3, rfl, Nq3, Kq3, szq3, hd3⟩ := hQ3
  refine OEnds.st st3 ?_
  replace N0 := Fr.app N0 Nq3
  have ne_a_t3 : a ≠ t3 := Nat.ne_of_lt (Nat.lt_of_lt_of_le E_a.lt szq3)
  have ne_tc_t3 : tc ≠ t3 := Nat.ne_of_lt (Nat.lt_of_lt_of_le V_tc.lt szq3)
  have ge_t3 : Z.heap.size ≤ t3 := Nat.le_trans O0.1 szq3
  have sz_t3 : h0.size ≤ t3 := Nat.le_trans K0.1 szq3
  replace E_a := E_a.keep Kq3
  replace F_value_a := F_value_a.keep Kq3 nin0
  replace F_coder_a := F_coder_a.keep Kq3 nin0
  replace V_tc := V_tc.keep Kq3 nin0
  replace O0 : Ext Z.heap h3 := ext_keep O0 Kq3 all0
  replace K0 : Keep h0 h3 [a] := K0.trans Kq3 all0
  rcases hd3 with ⟨g0, g1, g2, Vt⟩ | Vt
  · refine OEnds.st (S' := T3.setTop (mkF m 45 #[vr a, vr tc, vi 0, vi 3, .val .null, vr t3] [(.int 3), (.ref t3), (.ref a)])) (fun _ k => ?_) ?_
    · refine XS.astore X3.here hx rfl (hb hby d_jdk_42_149_39) rfl rfl (l' := #[vr a, vr tc, vi 0, vi 3, .val .null, vr t3]) rfl ?_
      refine XS.aloadN X3.here hx rfl (hb hby d_jdk_42_149_41) rfl rfl ?_
      refine XS.aload X3.here hx rfl (hb hby d_jdk_42_149_42) rfl rfl ?_
      refine XS.iloadN X3.here hx rfl (hb hby d_jdk_42_149_44) rfl ?_
      exact k
    obtain ⟨_, T4, h4, L4, X4, e4, hQ4, st4⟩ := callC X3 hx hZ hown (wq hw 28 rfl) (wq hw 29 rfl) (wq hw 22 rfl) (wq hw 30 rfl) (by decide) (kc := 0) (ks := 0) (Con.sb (W := 1) (rm_cal3_0 l hD t3 k3 [(.int (x0.toInt8.toInt32)), (.int (x1.toInt8.toInt32)), (.int (x2.toInt8.toInt32))] O0 Vt) hZ (wq hw 30 rfl) (wq hw 22 rfl) (by decide) (by decide)) e3 (g := (mkF m 45 #[vr a, vr tc, vi 0, vi 3, .val .null, vr t3] [(.int 3), (.ref t3), (.ref a)])) rfl (by rw [hml]; rfl) (argsL := [(.ref t3), (.int 3)]) (rest := [(.ref a)]) (lenOf pd_7 rfl) rfl (by show 2 * 0 + _ ≤ _; exact Nat.le_of_eq rfl) (hb hby d_jdk_42_149_45) (by decide) (by decide)
    obtain ⟨rfl, Nq4, Hq4⟩ := hQ4
    refine OEnds.st st4 ?_
    replace N0 := Fr.app N0 Nq4
    replace e4 := e4.trans Hq4
    have ne_tc_a : tc ≠ a := Ne.symm (ne_arv E_a (wq hw 7 rfl) V_tc)
    obtain ⟨T5, h5, X5, e5, W5, st5⟩ := putF X4 hx hZ hown (host := "") (Or.inl (wq hw 31 rfl)) Via.refl e4 F_coder_a E_a (Or.inr ⟨(wq hw 32 rfl), rfl, hnm⟩) (wq hw 7 rfl) (ty := .byte) (by decide) rfl rfl (g := (mkF m 48 #[vr a, vr tc, vi 0, vi 3, .val .null, vr t3] [(.int 0), (.ref a)])) rfl rfl (hb hby d_jdk_42_149_48)
    refine OEnds.st st5 ?_
    replace E_a := E_a.wr W5
    replace F_value_a := F_value_a.other W5 (Or.inr (slot_ne (Or.inr (wq hw 34 rfl)) (Or.inr (wq hw 32 rfl)) (by decide) (t := (.array .byte)) (t' := .byte) (by decide) (by decide)))
    replace F_coder_a := F_coder_a.same W5
    replace V_tc := V_tc.other W5 ne_tc_a
    replace Vt := Vt.other W5 (Ne.symm (Nat.ne_of_lt (Nat.lt_of_lt_of_le E_a0.lt szq3)))
    replace O0 : Ext Z.heap h5 := ext_wr O0 W5 ge_a
    replace N0 := Fr.snoc X5 N0 ge_a
    replace K0 : Keep h0 h5 [a] := K0.wr W5 (Or.inl (List.mem_of_getElem? (i := 0) rfl))
    refine OEnds.st (S' := T5.setTop (mkF m 54 #[vr a, vr tc, vi 0, vi 3, .val .null, vr t3] [(.ref t3), (.ref a)])) (fun _ k => ?_) ?_
    · refine XS.aloadN X5.here hx rfl (hb hby d_jdk_42_149_51) rfl rfl ?_
      refine XS.aload X5.here hx rfl (hb hby d_jdk_42_149_52) rfl rfl ?_
      exact k
    obtain ⟨T6, h6, X6, e6, W6, st6⟩ := putF X5 hx hZ hown (host := "") (Or.inl (wq hw 33 rfl)) Via.refl e5 F_value_a E_a (Or.inr ⟨(wq hw 34 rfl), rfl, hnm⟩) (wq hw 7 rfl) (ty := (.array .byte)) (by decide) rfl rfl (g := (mkF m 54 #[vr a, vr tc, vi 0, vi 3, .val .null, vr t3] [(.ref t3), (.ref a)])) rfl rfl (hb hby d_jdk_42_149_54)
    refine OEnds.st st6 ?_
    replace E_a := E_a.wr W6
    replace F_value_a := F_value_a.same W6
    replace F_coder_a := F_coder_a.other W6 (Or.inr (slot_ne (Or.inr (wq hw 32 rfl)) (Or.inr (wq hw 34 rfl)) (by decide) (t := .byte) (t' := (.array .byte)) (by decide) (by decide)))
    replace V_tc := V_tc.other W6 ne_tc_a
    replace Vt := Vt.other W6 (Ne.symm (Nat.ne_of_lt (Nat.lt_of_lt_of_le E_a0.lt szq3)))
    replace O0 : Ext Z.heap h6 := ext_wr O0 W6 ge_a
    replace N0 := Fr.snoc X6 N0 ge_a
    replace K0 : Keep h0 h6 [a] := K0.wr W6 (Or.inl (List.mem_of_getElem? (i := 0) rfl))
    exact OEnds.retV X6 hx hret hlk (hb hby d_jdk_42_149_57) (by decide) (by decide) (by rw [e6]; exact ⟨rfl, N0, K0, E_a, t3, _, F_value_a, Or.inl ⟨⟨g0, g1, g2⟩, F_coder_a, Vt⟩⟩)
  · refine OEnds.st (S' := T3.setTop (mkF m 45 #[vr a, vr tc, vi 0, vi 3, .val .null, vr t3] [(.int 3), (.ref t3), (.ref a)])) (fun _ k => ?_) ?_
    · refine XS.astore X3.here hx rfl (hb hby d_jdk_42_149_39) rfl rfl (l' := #[vr a, vr tc, vi 0, vi 3, .val .null, vr t3]) rfl ?_
      refine XS.aloadN X3.here hx rfl (hb hby d_jdk_42_149_41) rfl rfl ?_
      refine XS.aload X3.here hx rfl (hb hby d_jdk_42_149_42) rfl rfl ?_
      refine XS.iloadN X3.here hx rfl (hb hby d_jdk_42_149_44) rfl ?_
      exact k
    obtain ⟨_, T4, h4, L4, X4, e4, hQ4, st4⟩ := callC X3 hx hZ hown (wq hw 28 rfl) (wq hw 29 rfl) (wq hw 22 rfl) (wq hw 30 rfl) (by decide) (kc := 0) (ks := 0) (Con.sb (W := 1) (rm_cal3_1 l hD t3 k3 [(.int (x0.toInt8.toInt32)), (.int ((x0 >>> ((8 : Int32) &&& 31)).toInt8.toInt32)), (.int (x1.toInt8.toInt32)), (.int ((x1 >>> ((8 : Int32) &&& 31)).toInt8.toInt32)), (.int (x2.toInt8.toInt32)), (.int ((x2 >>> ((8 : Int32) &&& 31)).toInt8.toInt32))] O0 Vt) hZ (wq hw 30 rfl) (wq hw 22 rfl) (by decide) (by decide)) e3 (g := (mkF m 45 #[vr a, vr tc, vi 0, vi 3, .val .null, vr t3] [(.int 3), (.ref t3), (.ref a)])) rfl (by rw [hml]; rfl) (argsL := [(.ref t3), (.int 3)]) (rest := [(.ref a)]) (lenOf pd_7 rfl) rfl (by show 2 * 0 + _ ≤ _; exact Nat.le_of_eq rfl) (hb hby d_jdk_42_149_45) (by decide) (by decide)
    obtain ⟨rfl, Nq4, Hq4⟩ := hQ4
    refine OEnds.st st4 ?_
    replace N0 := Fr.app N0 Nq4
    replace e4 := e4.trans Hq4
    have ne_tc_a : tc ≠ a := Ne.symm (ne_arv E_a (wq hw 7 rfl) V_tc)
    obtain ⟨T5, h5, X5, e5, W5, st5⟩ := putF X4 hx hZ hown (host := "") (Or.inl (wq hw 31 rfl)) Via.refl e4 F_coder_a E_a (Or.inr ⟨(wq hw 32 rfl), rfl, hnm⟩) (wq hw 7 rfl) (ty := .byte) (by decide) rfl rfl (g := (mkF m 48 #[vr a, vr tc, vi 0, vi 3, .val .null, vr t3] [(.int 1), (.ref a)])) rfl rfl (hb hby d_jdk_42_149_48)
    refine OEnds.st st5 ?_
    replace E_a := E_a.wr W5
    replace F_value_a := F_value_a.other W5 (Or.inr (slot_ne (Or.inr (wq hw 34 rfl)) (Or.inr (wq hw 32 rfl)) (by decide) (t := (.array .byte)) (t' := .byte) (by decide) (by decide)))
    replace F_coder_a := F_coder_a.same W5
    replace V_tc := V_tc.other W5 ne_tc_a
    replace Vt := Vt.other W5 (Ne.symm (Nat.ne_of_lt (Nat.lt_of_lt_of_le E_a0.lt szq3)))
    replace O0 : Ext Z.heap h5 := ext_wr O0 W5 ge_a
    replace N0 := Fr.snoc X5 N0 ge_a
    replace K0 : Keep h0 h5 [a] := K0.wr W5 (Or.inl (List.mem_of_getElem? (i := 0) rfl))
    refine OEnds.st (S' := T5.setTop (mkF m 54 #[vr a, vr tc, vi 0, vi 3, .val .null, vr t3] [(.ref t3), (.ref a)])) (fun _ k => ?_) ?_
    · refine XS.aloadN X5.here hx rfl (hb hby d_jdk_42_149_51) rfl rfl ?_
      refine XS.aload X5.here hx rfl (hb hby d_jdk_42_149_52) rfl rfl ?_
      exact k
    obtain ⟨T6, h6, X6, e6, W6, st6⟩ := putF X5 hx hZ hown (host := "") (Or.inl (wq hw 33 rfl)) Via.refl e5 F_value_a E_a (Or.inr ⟨(wq hw 34 rfl), rfl, hnm⟩) (wq hw 7 rfl) (ty := (.array .byte)) (by decide) rfl rfl (g := (mkF m 54 #[vr a, vr tc, vi 0, vi 3, .val .null, vr t3] [(.ref t3), (.ref a)])) rfl rfl (hb hby d_jdk_42_149_54)
    refine OEnds.st st6 ?_
    replace E_a := E_a.wr W6
    replace F_value_a := F_value_a.same W6
    replace F_coder_a := F_coder_a.other W6 (Or.inr (slot_ne (Or.inr (wq hw 32 rfl)) (Or.inr (wq hw 34 rfl)) (by decide) (t := .byte) (t' := (.array .byte)) (by decide) (by decide)))
    replace V_tc := V_tc.other W6 ne_tc_a
    replace Vt := Vt.other W6 (Ne.symm (Nat.ne_of_lt (Nat.lt_of_lt_of_le E_a0.lt szq3)))
    replace O0 : Ext Z.heap h6 := ext_wr O0 W6 ge_a
    replace N0 := Fr.snoc X6 N0 ge_a
    replace K0 : Keep h0 h6 [a] := K0.wr W6 (Or.inl (List.mem_of_getElem? (i := 0) rfl))
    exact OEnds.retV X6 hx hret hlk (hb hby d_jdk_42_149_57) (by decide) (by decide) (by rw [e6]; exact ⟨rfl, N0, K0, E_a, t3, _, F_value_a, Or.inr ⟨F_coder_a, Vt⟩⟩)
-- java/lang/String.<init>:([C)V
def Q_strI1_3 (Z : State) (a : Addr) (tc : Addr) (kc : ClassId) (x0 x1 x2 : Int32) (h0 : Heap) (v : Option Value) (h : Heap) (L : List Loc) : Prop := v = none ∧ Fr Z.heap.size L ∧ Keep h0 h [a] ∧ Exa Z h a "java/lang/String" ∧ ∃ (t : Addr) (k : ClassId), Fld Z h a "java/lang/String" "value" "[B" (.ref t) ∧ (((¬ (255 : Int32) < x0 ∧ ¬ (255 : Int32) < x1 ∧ ¬ (255 : Int32) < x2) ∧ Fld Z h a "java/lang/String" "coder" "B" (.int 0) ∧ Arv Z h t k .byte (3 : Int32) [(.int (x0.toInt8.toInt32)), (.int (x1.toInt8.toInt32)), (.int (x2.toInt8.toInt32))] (.int 0)) ∨ (Fld Z h a "java/lang/String" "coder" "B" (.int 1) ∧ Arv Z h t k .byte (6 : Int32) [(.int (x0.toInt8.toInt32)), (.int ((x0 >>> ((8 : Int32) &&& 31)).toInt8.toInt32)), (.int (x1.toInt8.toInt32)), (.int ((x1 >>> ((8 : Int32) &&& 31)).toInt8.toInt32)), (.int (x2.toInt8.toInt32)), (.int ((x2 >>> ((8 : Int32) &&& 31)).toInt8.toInt32))] (.int 0)))
theorem ef_strI1_3 (m : MethodId) (a : Addr) (tc : Addr) : entryFrame m #[(.ref a), (.ref tc)] 2 = mkF m 0 #[vr a, vr tc] [] := by first | (simp [entryFrame, mkF, argsToLocals, Value.category, vi, vj, vr]; done) | rfl
set_option maxRecDepth 65536 in
set_option maxHeartbeats 40000000 in
theorem rm_strI1_3 (l : Launch) {Z : State} {a0 : Array Value} (hD : Wd Z a0) (a : Addr) (tc : Addr) (kc : ClassId) (x0 x1 x2 : Int32) {h0 : Heap} (O0 : Ext Z.heap h0) (E_a : Exa Z h0 a "java/lang/String") (F_value_a : Fld Z h0 a "java/lang/String" "value" "[B" .null) (F_coder_a : Fld Z h0 a "java/lang/String" "coder" "B" (.int 0)) (ge_a : Z.heap.size ≤ a) (V_tc : Arv Z h0 tc kc .char (3 : Int32) [(.int x0), (.int x1), (.int x2)] (.int 0)) (hx0 : ¬ x0 < 0 ∧ ¬ (65535 : Int32) < x0) (hx1 : ¬ x1 < 0 ∧ ¬ (65535 : Int32) < x1) (hx2 : ¬ x2 < 0 ∧ ¬ (65535 : Int32) < x2) :
    Con l Z (⟨"java/lang/String", "<init>", "([C)V"⟩ : MethodName) jdk_42_method_3_code 2 none [] ({ frames := 5, cells := 2, slots := 9, locals := 74 } : Room) #[(.ref a), (.ref tc)] h0 (Q_strI1_3 Z a tc kc x0 x1 x2 h0) := by
  refine Con.walk (plainFor_of_name pn_1) ?_
  intro p e s m below meth c T0 X0 hx hZ hby hml hown hnm hret hlk e0
  obtain ⟨hw, ⟨cz, S_CS, hcz⟩, ⟨sf, S_SF, hsf⟩, S_AD, S_HI, S_LO⟩ := id hD
  have N0 := Fr.nil Z.heap.size
  have K0 : Keep h0 h0 [a] := Keep.refl _ _
  refine OEnds.cast (ef_strI1_3 m a tc) ?_
  refine OEnds.st (S' := T0.setTop (mkF m 4 #[vr a, vr tc] [(.ref tc), (.int 0), (.ref tc), (.ref a)])) (fun _ k => ?_) ?_
  · refine XS.aloadN X0.here hx rfl (hb hby d_jdk_42_3_0) rfl rfl ?_
    refine XS.aloadN X0.here hx rfl (hb hby d_jdk_42_3_1) rfl rfl ?_
    refine XS.iconst X0.here hx rfl (hb hby d_jdk_42_3_2) ?_
    refine XS.aloadN X0.here hx rfl (hb hby d_jdk_42_3_3) rfl rfl ?_
    exact k
  obtain ⟨cl_tc_1, Ar_tc_1, q_tc_1, S_tc_1, N_tc_1, H_tc_1, G_tc_1⟩ := id V_tc
  refine OEnds.st (S' := T0.setTop (mkF m 5 #[vr a, vr tc] [(.int 3), (.int 0), (.ref tc), (.ref a)])) (fun tg kq9 => X0.arraylength hx (by rw [e0]; exact Ar_tc_1.1) (State.isArrayOf_alike hZ.alike Ar_tc_1.2.1) (g := (mkF m 4 #[vr a, vr tc] [(.ref tc), (.int 0), (.ref tc), (.ref a)])) rfl rfl (hb hby d_jdk_42_3_4) tg (by rw [len_of S_tc_1 N_tc_1]; exact kq9)) ?_
  refine OEnds.st (S' := T0.setTop (mkF m 6 #[vr a, vr tc] [.null, (.int 3), (.int 0), (.ref tc), (.ref a)])) (fun _ k => ?_) ?_
  · refine XS.aconstNull X0.here hx rfl (hb hby d_jdk_42_3_5) ?_
    exact k
  obtain ⟨_, T2, h2, L2, X2, e2, hQ2, st2⟩ := specC X0 hx hZ rfl hown (wq hw 12 rfl) (wq hw 13 rfl) (wq hw 15 rfl) (by decide) (kc := 2) (ks := 9) (Con.sb (W := 0) (rm_strI2_3 l hD a tc kc x0 x1 x2 O0 E_a F_value_a F_coder_a ge_a V_tc hx0 hx1 hx2) hZ (wq hw 15 rfl) (wq hw 8 rfl) (by decide) (by decide)) e0 (a := a) (g := (mkF m 6 #[vr a, vr tc] [.null, (.int 3), (.int 0), (.ref tc), (.ref a)])) rfl (by rw [hml]; rfl) (argsL := [(.ref tc), (.int 0), (.int 3), .null]) (rest := []) (lenOf pd_8 rfl) rfl (by show 2 * 0 + _ ≤ _; exact Nat.le_of_eq rfl) (hb hby d_jdk_42_3_6) (by decide) (by decide)
  obtain ⟨rfl, Nq2, Kq2, R2⟩ := hQ2
  refine OEnds.st st2 ?_
  replace N0 := Fr.app N0 Nq2
  have ne_tc_a : tc ≠ a := Ne.symm (ne_arv E_a (wq hw 7 rfl) V_tc)
  replace E_a := E_a.keep Kq2
  replace V_tc := V_tc.keep Kq2 (ninS ne_tc_a nin0)
  replace O0 : Ext Z.heap h2 := ext_keep O0 Kq2 (allS ge_a all0)
  replace K0 : Keep h0 h2 [a] := K0.trans Kq2 (allS (Or.inl (List.mem_of_getElem? (i := 0) rfl)) all0)
  exact OEnds.retV X2 hx hret hlk (hb hby d_jdk_42_3_9) (by decide) (by decide) (by rw [e2]; exact ⟨rfl, N0, K0, R2⟩)
-- java/lang/String.<init>:([CIILjava/lang/Void;)V
def Q_strE2 (Z : State) (a : Addr) (tc : Addr) (h0 : Heap) (v : Option Value) (h : Heap) (L : List Loc) : Prop := v = none ∧ Fr Z.heap.size L ∧ Keep h0 h [a] ∧ Exa Z h a "java/lang/String" ∧ Fld Z h a "java/lang/String" "coder" "B" (.int 0) ∧ ∃ (t : Addr) (kb : ClassId), Fld Z h a "java/lang/String" "value" "[B" (.ref t) ∧ Arv Z h t kb .byte (0 : Int32) [] (.int 0)
theorem ef_strE2 (m : MethodId) (a : Addr) (tc : Addr) : entryFrame m #[(.ref a), (.ref tc), (.int 0), (.int 0), .null] 6 = mkF m 0 #[vr a, vr tc, vi 0, vi 0, .val .null, .unset] [] := by first | (simp [entryFrame, mkF, argsToLocals, Value.category, vi, vj, vr]; done) | rfl
theorem d_jdk_42_149_8 : decode jdk_42_method_149_code 8 = .ok (.aload_n 0, 1) := by decide +kernel
theorem d_jdk_42_149_9 : decode jdk_42_method_149_code 9 = .ok (.ldc 7, 2) := by decide +kernel
theorem d_jdk_42_149_11 : decode jdk_42_method_149_code 11 = .ok (.getfield 9, 3) := by decide +kernel
theorem d_jdk_42_149_14 : decode jdk_42_method_149_code 14 = .ok (.putfield 9, 3) := by decide +kernel
theorem d_jdk_42_149_17 : decode jdk_42_method_149_code 17 = .ok (.aload_n 0, 1) := by decide +kernel
theorem d_jdk_42_149_18 : decode jdk_42_method_149_code 18 = .ok (.ldc 7, 2) := by decide +kernel
theorem d_jdk_42_149_20 : decode jdk_42_method_149_code 20 = .ok (.getfield 15, 3) := by decide +kernel
theorem d_jdk_42_149_23 : decode jdk_42_method_149_code 23 = .ok (.putfield 15, 3) := by decide +kernel
theorem d_jdk_42_149_26 : decode jdk_42_method_149_code 26 = .ok (.return_, 1) := by decide +kernel
set_option maxRecDepth 65536 in
set_option maxHeartbeats 40000000 in
theorem rm_strE2 (l : Launch) {Z : State} {a0 : Array Value} (hD : Wd Z a0) (a : Addr) (tc : Addr) {h0 : Heap} (O0 : Ext Z.heap h0) (E_a : Exa Z h0 a "java/lang/String") (F_value_a : Fld Z h0 a "java/lang/String" "value" "[B" .null) (F_coder_a : Fld Z h0 a "java/lang/String" "coder" "B" (.int 0)) (ge_a : Z.heap.size ≤ a) :
    ConH l Z EL (⟨"java/lang/String", "<init>", "([CIILjava/lang/Void;)V"⟩ : MethodName) jdk_42_method_149_code 6 none [] ({ frames := 1, cells := 4, slots := 8, locals := 12 } : Room) #[(.ref a), (.ref tc), (.int 0), (.int 0), .null] h0 [a] (Q_strE2 Z a tc h0) := by
  refine ConH.walk (plainFor_of_name pn_1) ?_
  intro p e s vm0 k0 m below meth c T0 X0 hS0 hk0 hx hZ hby hml hown hnm hret hlk e0 A0 hss
  obtain ⟨hw, ⟨cz, S_CS, hcz⟩, ⟨sf, S_SF, hsf⟩, S_AD, S_HI, S_LO⟩ := id hD
  have N0 := Fr.nil Z.heap.size
  have K0 : Keep h0 h0 [a] := Keep.refl _ _
  have S_a := hss a (List.mem_of_getElem? (i := 0) rfl)
  have hEL : EW Z a0 EL := el_of hw
  have hsa : ∀ a ∈ Bundle.stringAtoms, a.before a0 Z = true := fun d hd => hw d (words_sa d hd)
  refine OEndsH.cast (ef_strE2 m a tc) ?_
  refine OEndsH.st (S' := T0.setTop (mkF m 1 #[vr a, vr tc, vi 0, vi 0, .val .null, .unset] [(.ref a)])) (fun _ k => ?_) ?_
  · refine XS.aloadN X0.here hx rfl (hb hby d_jdk_42_149_0) rfl rfl ?_
    exact k
  obtain ⟨T1, X1, e1, st1⟩ := initO X0 hx hZ hown (wq hw 16 rfl) (wq hw 17 rfl) (wq hw 18 rfl) e0 (g := (mkF m 1 #[vr a, vr tc, vi 0, vi 0, .val .null, .unset] [(.ref a)])) rfl (by rw [hml]; rfl) rfl (hb hby d_jdk_42_149_1) (by decide) (W := 0) (by show 2 * 0 + _ ≤ _; exact Nat.le_of_eq rfl) (by decide)
  refine OEndsH.st st1 ?_
  refine OEndsH.st (S' := T1.setTop (mkF m 9 #[vr a, vr tc, vi 0, vi 0, .val .null, .unset] [(.ref a)])) (fun _ k => ?_) ?_
  · refine XS.iloadN X1.here hx rfl (hb hby d_jdk_42_149_4) rfl ?_
    refine XS.ifNo X1.here hx rfl (hb hby d_jdk_42_149_5) rfl ((if0 _ _).trans (teq (by decide)).2) ?_
    refine XS.aloadN X1.here hx rfl (hb hby d_jdk_42_149_8) rfl rfl ?_
    exact k
  obtain ⟨b2, T2, h2, k12, t2, kb2, X2, e2, E2, hS2, hk2, hZ2, hown2, Es2, Fc2, Fv2, V2, -, -, Aq2, -, nes2, st2⟩ := ldcCH X1 hx hZ hown (wq hw 84 rfl) hsa e1 hS0 hk0 hEL (List.mem_of_getElem? (i := 0) rfl) A0.1 (vs := []) (z := (0 : Int32)) ⟨by decide, by decide⟩ (by decide) rfl (g := (mkF m 9 #[vr a, vr tc, vi 0, vi 0, .val .null, .unset] [(.ref a)])) rfl (hb hby d_jdk_42_149_9) (n := 0) (by decide) (by decide) (by decide) (by decide)
  replace hZ2 : Z.Warmed39 T2.vm := hZ2
  replace hown2 : T2.vm.findClass "java/lang/String" = some m.cls := hown2
  replace S_a : Safe Z EL T2.vm h2 a := Aq2.safe E_a.lt S_a
  replace A0 : CHr Z EL s.vm s.heap T2.vm h2 := A0.trans Aq2
  refine OEndsH.st st2 ?_
  have ne_a_b2 : a ≠ b2 := (nes2 a S_a).1
  have ne_a_t2 : a ≠ t2 := (nes2 a S_a).2
  replace E_a := E_a.ext E2
  replace F_value_a := F_value_a.ext E2
  replace F_coder_a := F_coder_a.ext E2
  replace O0 : Ext Z.heap h2 := ext_trans O0 E2
  replace K0 : Keep h0 h2 [a] := K0.ext E2
  obtain ⟨T3, X3, e3, st3⟩ := getF X2 hx hZ2 hown2 (host := "") (Or.inl (wq hw 33 rfl)) Via.refl e2 Fv2 (g := (mkF m 11 #[vr a, vr tc, vi 0, vi 0, .val .null, .unset] [(.ref b2), (.ref a)])) rfl rfl (hb hby d_jdk_42_149_11)
  refine OEndsH.st st3 ?_
  obtain ⟨T4, h4, X4, e4, W4, st4⟩ := putF X3 hx hZ2 hown2 (host := "") (Or.inl (wq hw 33 rfl)) Via.refl e3 F_value_a E_a (Or.inr ⟨(wq hw 34 rfl), rfl, hnm⟩) (wq hw 7 rfl) (ty := (.array .byte)) (by decide) rfl rfl (g := (mkF m 14 #[vr a, vr tc, vi 0, vi 0, .val .null, .unset] [(.ref t2), (.ref a)])) rfl rfl (hb hby d_jdk_42_149_14)
  refine OEndsH.st st4 ?_
  replace E_a := E_a.wr W4
  replace F_value_a := F_value_a.same W4
  replace F_coder_a := F_coder_a.other W4 (Or.inr (slot_ne (Or.inr (wq hw 32 rfl)) (Or.inr (wq hw 34 rfl)) (by decide) (t := .byte) (t' := (.array .byte)) (by decide) (by decide)))
  replace Es2 := Es2.wr W4
  replace Fc2 := Fc2.other W4 (Or.inl (Ne.symm ne_a_b2))
  replace Fv2 := Fv2.other W4 (Or.inl (Ne.symm ne_a_b2))
  replace V2 := V2.other W4 (Ne.symm ne_a_t2)
  have S_a' : Safe Z EL T2.vm h4 a := Safe.wr W4 S_a A0.1 S_a
  have A' : CHr Z EL s.vm s.heap T2.vm h4 := A0.trans (CHr.wr W4 S_a A0.1)
  replace S_a := S_a'
  replace A0 := A'
  replace hk2 := Nat.le_trans hk2 (Keep.of_wr W4).1
  replace O0 : Ext Z.heap h4 := ext_wr O0 W4 ge_a
  replace N0 := Fr.snoc X4 N0 ge_a
  replace K0 : Keep h0 h4 [a] := K0.wr W4 (Or.inl (List.mem_of_getElem? (i := 0) rfl))
  refine OEndsH.st (S' := T4.setTop (mkF m 18 #[vr a, vr tc, vi 0, vi 0, .val .null, .unset] [(.ref a)])) (fun _ k => ?_) ?_
  · refine XS.aloadN X4.here hx rfl (hb hby d_jdk_42_149_17) rfl rfl ?_
    exact k
  obtain ⟨b5, T5, h5, k15, t5, kb5, X5, e5, E5, hS5, hk5, hZ5, hown5, Es5, Fc5, Fv5, V5, -, -, Aq5, -, nes5, st5⟩ := ldcCH X4 hx hZ2 hown2 (wq hw 84 rfl) hsa e4 hS2 hk2 hEL (List.mem_of_getElem? (i := 0) rfl) A0.1 (vs := []) (z := (0 : Int32)) ⟨by decide, by decide⟩ (by decide) rfl (g := (mkF m 18 #[vr a, vr tc, vi 0, vi 0, .val .null, .unset] [(.ref a)])) rfl (hb hby d_jdk_42_149_18) (n := 0) (by decide) (by decide) (by decide) (by decide)
  replace hZ5 : Z.Warmed39 T5.vm := hZ5
  replace hown5 : T5.vm.findClass "java/lang/String" = some m.cls := hown5
  replace S_a : Safe Z EL T5.vm h5 a := Aq5.safe E_a.lt S_a
  replace A0 : CHr Z EL s.vm s.heap T5.vm h5 := A0.trans Aq5
  refine OEndsH.st st5 ?_
  have ne_a_b5 : a ≠ b5 := (nes5 a S_a).1
  have ne_a_t5 : a ≠ t5 := (nes5 a S_a).2
  replace E_a := E_a.ext E5
  replace F_value_a := F_value_a.ext E5
  replace F_coder_a := F_coder_a.ext E5
  replace Es2 := Es2.ext E5
  replace Fc2 := Fc2.ext E5
  replace Fv2 := Fv2.ext E5
  replace V2 := V2.ext E5
  replace O0 : Ext Z.heap h5 := ext_trans O0 E5
  replace K0 : Keep h0 h5 [a] := K0.ext E5
  obtain ⟨T6, X6, e6, st6⟩ := getF X5 hx hZ5 hown5 (host := "") (Or.inl (wq hw 31 rfl)) Via.refl e5 Fc5 (g := (mkF m 20 #[vr a, vr tc, vi 0, vi 0, .val .null, .unset] [(.ref b5), (.ref a)])) rfl rfl (hb hby d_jdk_42_149_20)
  refine OEndsH.st st6 ?_
  obtain ⟨T7, h7, X7, e7, W7, st7⟩ := putF X6 hx hZ5 hown5 (host := "") (Or.inl (wq hw 31 rfl)) Via.refl e6 F_coder_a E_a (Or.inr ⟨(wq hw 32 rfl), rfl, hnm⟩) (wq hw 7 rfl) (ty := .byte) (by decide) rfl rfl (g := (mkF m 23 #[vr a, vr tc, vi 0, vi 0, .val .null, .unset] [(.int 0), (.ref a)])) rfl rfl (hb hby d_jdk_42_149_23)
  refine OEndsH.st st7 ?_
  replace E_a := E_a.wr W7
  replace F_value_a := F_value_a.other W7 (Or.inr (slot_ne (Or.inr (wq hw 34 rfl)) (Or.inr (wq hw 32 rfl)) (by decide) (t := (.array .byte)) (t' := .byte) (by decide) (by decide)))
  replace F_coder_a := F_coder_a.same W7
  replace Es2 := Es2.wr W7
  replace Fc2 := Fc2.other W7 (Or.inl (Ne.symm ne_a_b2))
  replace Fv2 := Fv2.other W7 (Or.inl (Ne.symm ne_a_b2))
  replace V2 := V2.other W7 (Ne.symm ne_a_t2)
  replace Es5 := Es5.wr W7
  replace Fc5 := Fc5.other W7 (Or.inl (Ne.symm ne_a_b5))
  replace Fv5 := Fv5.other W7 (Or.inl (Ne.symm ne_a_b5))
  replace V5 := V5.other W7 (Ne.symm ne_a_t5)
  have S_a' : Safe Z EL T5.vm h7 a := Safe.wr W7 S_a A0.1 S_a
  have A' : CHr Z EL s.vm s.heap T5.vm h7 := A0.trans (CHr.wr W7 S_a A0.1)
  replace S_a := S_a'
  replace A0 := A'
  replace hk5 := Nat.le_trans hk5 (Keep.of_wr W7).1
  replace O0 : Ext Z.heap h7 := ext_wr O0 W7 ge_a
  replace N0 := Fr.snoc X7 N0 ge_a
  replace K0 : Keep h0 h7 [a] := K0.wr W7 (Or.inl (List.mem_of_getElem? (i := 0) rfl))
  exact OEndsH.retV X7 hx hZ5 hEL e7 hS5 hk5 A0 hret hlk (hb hby d_jdk_42_149_26) (by decide) (by decide) ⟨rfl, N0, K0, E_a, F_coder_a, t2, _, F_value_a, V2⟩
-- java/lang/String.<init>:([C)V
def Q_strE1 (Z : State) (a : Addr) (tc : Addr) (k : ClassId) (h0 : Heap) (v : Option Value) (h : Heap) (L : List Loc) : Prop := v = none ∧ Fr Z.heap.size L ∧ Keep h0 h [a] ∧ Exa Z h a "java/lang/String" ∧ Fld Z h a "java/lang/String" "coder" "B" (.int 0) ∧ ∃ (t : Addr) (kb : ClassId), Fld Z h a "java/lang/String" "value" "[B" (.ref t) ∧ Arv Z h t kb .byte (0 : Int32) [] (.int 0)
theorem ef_strE1 (m : MethodId) (a : Addr) (tc : Addr) : entryFrame m #[(.ref a), (.ref tc)] 2 = mkF m 0 #[vr a, vr tc] [] := by first | (simp [entryFrame, mkF, argsToLocals, Value.category, vi, vj, vr]; done) | rfl
set_option maxRecDepth 65536 in
set_option maxHeartbeats 40000000 in
theorem rm_strE1 (l : Launch) {Z : State} {a0 : Array Value} (hD : Wd Z a0) (a : Addr) (tc : Addr) (k : ClassId) {h0 : Heap} (O0 : Ext Z.heap h0) (E_a : Exa Z h0 a "java/lang/String") (F_value_a : Fld Z h0 a "java/lang/String" "value" "[B" .null) (F_coder_a : Fld Z h0 a "java/lang/String" "coder" "B" (.int 0)) (ge_a : Z.heap.size ≤ a) (V_tc : Arv Z h0 tc k .char (0 : Int32) [] (.int 0)) :
    ConH l Z EL (⟨"java/lang/String", "<init>", "([C)V"⟩ : MethodName) jdk_42_method_3_code 2 none [] ({ frames := 2, cells := 4, slots := 8, locals := 29 } : Room) #[(.ref a), (.ref tc)] h0 [a] (Q_strE1 Z a tc k h0) := by
  refine ConH.walk (plainFor_of_name pn_1) ?_
  intro p e s vm0 k0 m below meth c T0 X0 hS0 hk0 hx hZ hby hml hown hnm hret hlk e0 A0 hss
  obtain ⟨hw, ⟨cz, S_CS, hcz⟩, ⟨sf, S_SF, hsf⟩, S_AD, S_HI, S_LO⟩ := id hD
  have N0 := Fr.nil Z.heap.size
  have K0 : Keep h0 h0 [a] := Keep.refl _ _
  have S_a := hss a (List.mem_of_getElem? (i := 0) rfl)
  have hEL : EW Z a0 EL := el_of hw
  have hsa : ∀ a ∈ Bundle.stringAtoms, a.before a0 Z = true := fun d hd => hw d (words_sa d hd)
  refine OEndsH.cast (ef_strE1 m a tc) ?_
  refine OEndsH.st (S' := T0.setTop (mkF m 4 #[vr a, vr tc] [(.ref tc), (.int 0), (.ref tc), (.ref a)])) (fun _ k => ?_) ?_
  · refine XS.aloadN X0.here hx rfl (hb hby d_jdk_42_3_0) rfl rfl ?_
    refine XS.aloadN X0.here hx rfl (hb hby d_jdk_42_3_1) rfl rfl ?_
    refine XS.iconst X0.here hx rfl (hb hby d_jdk_42_3_2) ?_
    refine XS.aloadN X0.here hx rfl (hb hby d_jdk_42_3_3) rfl rfl ?_
    exact k
  obtain ⟨cl_tc_1, Ar_tc_1, q_tc_1, S_tc_1, N_tc_1, H_tc_1, G_tc_1⟩ := id V_tc
  refine OEndsH.st (S' := T0.setTop (mkF m 5 #[vr a, vr tc] [(.int 0), (.int 0), (.ref tc), (.ref a)])) (fun tg kq9 => X0.arraylength hx (by rw [e0]; exact Ar_tc_1.1) (State.isArrayOf_alike hZ.alike Ar_tc_1.2.1) (g := (mkF m 4 #[vr a, vr tc] [(.ref tc), (.int 0), (.ref tc), (.ref a)])) rfl rfl (hb hby d_jdk_42_3_4) tg (by rw [len_of S_tc_1 N_tc_1]; exact kq9)) ?_
  refine OEndsH.st (S' := T0.setTop (mkF m 6 #[vr a, vr tc] [.null, (.int 0), (.int 0), (.ref tc), (.ref a)])) (fun _ k => ?_) ?_
  · refine XS.aconstNull X0.here hx rfl (hb hby d_jdk_42_3_5) ?_
    exact k
  obtain ⟨_, T2, h2, L2, vm2, k12, X2, e2, hQ2, hS2, hk2, hZ2, hown2, Aq2, st2⟩ := specH X0 hx hZ rfl hown (wq hw 12 rfl) (wq hw 13 rfl) (wq hw 15 rfl) (by decide) (kc := 4) (ks := 8) (ConH.sb (W := 0) (rm_strE2 l hD a tc O0 E_a F_value_a F_coder_a ge_a) hZ (wq hw 15 rfl) (wq hw 8 rfl) (by decide) (by decide) hEL A0.1 (allS ⟨E_a.lt, S_a⟩ all0)) e0 hS0 hk0 (a := a) (g := (mkF m 6 #[vr a, vr tc] [.null, (.int 0), (.int 0), (.ref tc), (.ref a)])) rfl (by rw [hml]; rfl) (argsL := [(.ref tc), (.int 0), (.int 0), .null]) (rest := []) (lenOf pd_8 rfl) rfl (by show 2 * 0 + _ ≤ _; exact Nat.le_of_eq rfl) (hb hby d_jdk_42_3_6) (by decide) (by decide)
  obtain ⟨rfl, Nq2, Kq2, Eq2, Fc2, tq2, kq2, Fv2, V2⟩ := hQ2
  replace S_a : Safe Z EL vm2 h2 a := Aq2.safe E_a.lt S_a
  replace A0 : CHr Z EL s.vm s.heap vm2 h2 := A0.trans Aq2
  refine OEndsH.st st2 ?_
  replace N0 := Fr.app N0 Nq2
  have ne_tc_a : tc ≠ a := Ne.symm (ne_arv E_a (wq hw 7 rfl) V_tc)
  replace E_a := E_a.keep Kq2
  replace V_tc := V_tc.keep Kq2 (ninS ne_tc_a nin0)
  replace O0 : Ext Z.heap h2 := ext_keep O0 Kq2 (allS ge_a all0)
  replace K0 : Keep h0 h2 [a] := K0.trans Kq2 (allS (Or.inl (List.mem_of_getElem? (i := 0) rfl)) all0)
  exact OEndsH.retV X2 hx hZ2 hEL e2 hS2 hk2 A0 hret hlk (hb hby d_jdk_42_3_9) (by decide) (by decide) ⟨rfl, N0, K0, E_a, Fc2, tq2, _, Fv2, V2⟩
-- java/lang/StringLatin1.indexOf:([BIII)I
def Q_lio0 (Z : State) (t : Addr) (cc : Int32) (k : ClassId)  (h0 : Heap) (v : Option Value) (h : Heap) (L : List Loc) : Prop := v = some (.int (-1)) ∧ Fr Z.heap.size L ∧ h = h0
theorem ef_lio0 (m : MethodId) (t : Addr) (cc : Int32) : entryFrame m #[(.ref t), (.int cc), (.int 0), (.int 0)] 4 = mkF m 0 #[vr t, vi cc, vi 0, vi 0] [] := by first | (simp [entryFrame, mkF, argsToLocals, Value.category, vi, vj, vr]; done) | rfl
theorem d_jdk_43_22_0 : decode jdk_43_method_22_code 0 = .ok (.iload_n 1, 1) := by decide +kernel
theorem d_jdk_43_22_1 : decode jdk_43_method_22_code 1 = .ok (.invokestatic 88, 3) := by decide +kernel
theorem pd_9 : parseMethodDescriptor "(I)Z" = some ⟨[.int], some .boolean⟩ := by decide +kernel
theorem d_jdk_43_22_4 : decode jdk_43_method_22_code 4 = .ok (.ifCond .ne 5, 3) := by decide +kernel
theorem d_jdk_43_22_9 : decode jdk_43_method_22_code 9 = .ok (.iload_n 2, 1) := by decide +kernel
theorem d_jdk_43_22_10 : decode jdk_43_method_22_code 10 = .ok (.iconst 0, 1) := by decide +kernel
theorem d_jdk_43_22_11 : decode jdk_43_method_22_code 11 = .ok (.invokestatic 92, 3) := by decide +kernel
theorem pd_10 : parseMethodDescriptor "(II)I" = some ⟨[.int, .int], some .int⟩ := by decide +kernel
theorem d_jdk_43_22_14 : decode jdk_43_method_22_code 14 = .ok (.istore_n 2, 1) := by decide +kernel
theorem d_jdk_43_22_15 : decode jdk_43_method_22_code 15 = .ok (.iload_n 3, 1) := by decide +kernel
theorem d_jdk_43_22_16 : decode jdk_43_method_22_code 16 = .ok (.aload_n 0, 1) := by decide +kernel
theorem d_jdk_43_22_17 : decode jdk_43_method_22_code 17 = .ok (.arraylength, 1) := by decide +kernel
theorem d_jdk_43_22_18 : decode jdk_43_method_22_code 18 = .ok (.invokestatic 38, 3) := by decide +kernel
theorem d_jdk_43_22_21 : decode jdk_43_method_22_code 21 = .ok (.istore_n 3, 1) := by decide +kernel
theorem d_jdk_43_22_22 : decode jdk_43_method_22_code 22 = .ok (.iload_n 2, 1) := by decide +kernel
theorem d_jdk_43_22_23 : decode jdk_43_method_22_code 23 = .ok (.iload_n 3, 1) := by decide +kernel
theorem d_jdk_43_22_24 : decode jdk_43_method_22_code 24 = .ok (.if_icmp .lt 5, 3) := by decide +kernel
theorem d_jdk_43_22_27 : decode jdk_43_method_22_code 27 = .ok (.iconst (-1), 1) := by decide +kernel
theorem d_jdk_43_22_28 : decode jdk_43_method_22_code 28 = .ok (.ireturn, 1) := by decide +kernel
set_option maxRecDepth 65536 in
set_option maxHeartbeats 40000000 in
theorem rm_lio0 (l : Launch) {Z : State} {a0 : Array Value} (hD : Wd Z a0) (t : Addr) (cc : Int32) (k : ClassId)  {h0 : Heap} (O0 : Ext Z.heap h0) (V_t : Arv Z h0 t k .byte (0 : Int32) [] (.int 0)) (hc : ¬ cc < 0 ∧ ¬ (127 : Int32) < cc) :
    Con l Z (⟨"java/lang/StringLatin1", "indexOf", "([BIII)I"⟩ : MethodName) jdk_43_method_22_code 4 (some .int) [] ({ frames := 1, cells := 0, slots := 0, locals := 13 } : Room) #[(.ref t), (.int cc), (.int 0), (.int 0)] h0 (Q_lio0 Z t cc k h0) := by
  refine Con.walk (plainFor_of_name pn_2) ?_
  intro p e s m below meth c T0 X0 hx hZ hby hml hown hnm hret hlk e0
  obtain ⟨hw, ⟨cz, S_CS, hcz⟩, ⟨sf, S_SF, hsf⟩, S_AD, S_HI, S_LO⟩ := id hD
  have N0 := Fr.nil Z.heap.size
  refine OEnds.cast (ef_lio0 m t cc) ?_
  refine OEnds.st (S' := T0.setTop (mkF m 1 #[vr t, vi cc, vi 0, vi 0] [(.int cc)])) (fun _ k => ?_) ?_
  · refine XS.iloadN X0.here hx rfl (hb hby d_jdk_43_22_0) rfl ?_
    exact k
  obtain ⟨_, T1, h1, L1, X1, e1, hQ1, st1⟩ := callC X0 hx hZ hown (wq hw 71 rfl) (wq hw 72 rfl) (wq hw 69 rfl) (wq hw 73 rfl) (by decide) (kc := 0) (ks := 0) (Con.sb (W := 0) (rm_canEnc l hD cc O0 hc) hZ (wq hw 73 rfl) (wq hw 69 rfl) (by decide) (by decide)) e0 (g := (mkF m 1 #[vr t, vi cc, vi 0, vi 0] [(.int cc)])) rfl (by rw [hml]; rfl) (argsL := [(.int cc)]) (rest := []) (lenOf pd_9 rfl) rfl (by show 2 * 0 + _ ≤ _; exact Nat.le_of_eq rfl) (hb hby d_jdk_43_22_1) (by decide) (by decide)
  obtain ⟨rfl, Nq1, Hq1⟩ := hQ1
  refine OEnds.st st1 ?_
  replace N0 := Fr.app N0 Nq1
  replace e1 := e1.trans Hq1
  refine OEnds.st (S' := T1.setTop (mkF m 11 #[vr t, vi cc, vi 0, vi 0] [(.int 0), (.int 0)])) (fun _ k => ?_) ?_
  · refine XS.ifYes X1.here hx rfl (pc0 := 4) (pc' := 9) rfl (hb hby d_jdk_43_22_4) rfl ((if0 _ _).trans (feq (by decide)).2) (by decide) (by decide) ?_
    refine XS.iloadN X1.here hx rfl (hb hby d_jdk_43_22_9) rfl ?_
    refine XS.iconst X1.here hx rfl (hb hby d_jdk_43_22_10) ?_
    exact k
  obtain ⟨_, T2, h2, L2, X2, e2, hQ2, st2⟩ := callC X1 hx hZ hown (wq hw 74 rfl) (wq hw 75 rfl) (wq hw 76 rfl) (wq hw 77 rfl) (by decide) (kc := 0) (ks := 0) (Con.sb (W := 0) (rm_max00 l hD  O0) hZ (wq hw 77 rfl) (wq hw 76 rfl) (by decide) (by decide)) e1 (g := (mkF m 11 #[vr t, vi cc, vi 0, vi 0] [(.int 0), (.int 0)])) rfl (by rw [hml]; rfl) (argsL := [(.int 0), (.int 0)]) (rest := []) (lenOf pd_10 rfl) rfl (by show 2 * 0 + _ ≤ _; exact Nat.le_of_eq rfl) (hb hby d_jdk_43_22_11) (by decide) (by decide)
  obtain ⟨rfl, Nq2, Hq2⟩ := hQ2
  refine OEnds.st st2 ?_
  replace N0 := Fr.app N0 Nq2
  replace e2 := e2.trans Hq2
  refine OEnds.st (S' := T2.setTop (mkF m 17 #[vr t, vi cc, vi 0, vi 0] [(.ref t), (.int 0)])) (fun _ k => ?_) ?_
  · refine XS.istoreN X2.here hx rfl (hb hby d_jdk_43_22_14) rfl (l' := #[vr t, vi cc, vi 0, vi 0]) rfl ?_
    refine XS.iloadN X2.here hx rfl (hb hby d_jdk_43_22_15) rfl ?_
    refine XS.aloadN X2.here hx rfl (hb hby d_jdk_43_22_16) rfl rfl ?_
    exact k
  obtain ⟨cl_t_3, Ar_t_3, q_t_3, S_t_3, N_t_3, H_t_3, G_t_3⟩ := id V_t
  refine OEnds.st (S' := T2.setTop (mkF m 18 #[vr t, vi cc, vi 0, vi 0] [(.int 0), (.int 0)])) (fun tg kq9 => X2.arraylength hx (by rw [e2]; exact Ar_t_3.1) (State.isArrayOf_alike hZ.alike Ar_t_3.2.1) (g := (mkF m 17 #[vr t, vi cc, vi 0, vi 0] [(.ref t), (.int 0)])) rfl rfl (hb hby d_jdk_43_22_17) tg (by rw [len_of S_t_3 N_t_3]; exact kq9)) ?_
  obtain ⟨_, T4, h4, L4, X4, e4, hQ4, st4⟩ := callC X2 hx hZ hown (wq hw 78 rfl) (wq hw 79 rfl) (wq hw 76 rfl) (wq hw 80 rfl) (by decide) (kc := 0) (ks := 0) (Con.sb (W := 0) (rm_minSame l hD (0 : Int32) O0) hZ (wq hw 80 rfl) (wq hw 76 rfl) (by decide) (by decide)) e2 (g := (mkF m 18 #[vr t, vi cc, vi 0, vi 0] [(.int 0), (.int 0)])) rfl (by rw [hml]; rfl) (argsL := [(.int 0), (.int 0)]) (rest := []) (lenOf pd_10 rfl) rfl (by show 2 * 0 + _ ≤ _; exact Nat.le_of_eq rfl) (hb hby d_jdk_43_22_18) (by decide) (by decide)
  obtain ⟨rfl, Nq4, Hq4⟩ := hQ4
  refine OEnds.st st4 ?_
  replace N0 := Fr.app N0 Nq4
  replace e4 := e4.trans Hq4
  refine OEnds.st (S' := T4.setTop (mkF m 28 #[vr t, vi cc, vi 0, vi 0] [(.int (-1))])) (fun _ k => ?_) ?_
  · refine XS.istoreN X4.here hx rfl (hb hby d_jdk_43_22_21) rfl (l' := #[vr t, vi cc, vi 0, vi 0]) rfl ?_
    refine XS.iloadN X4.here hx rfl (hb hby d_jdk_43_22_22) rfl ?_
    refine XS.iloadN X4.here hx rfl (hb hby d_jdk_43_22_23) rfl ?_
    refine XS.icmpNo X4.here hx rfl (hb hby d_jdk_43_22_24) rfl (flt (by decide)).1 ?_
    show Steps p.tables e below (T4.setTop (mkF m 27 #[vr t, vi cc, vi 0, vi 0] [])) _
    refine XS.iconst X4.here hx rfl (hb hby d_jdk_43_22_27) ?_
    exact k
  exact OEnds.ret X4 hx hret hlk rfl (Or.inl ⟨rfl, by simp, _, rfl⟩) (hb hby d_jdk_43_22_28) (by decide) (by decide) (by rw [e4]; exact ⟨rfl, N0, rfl⟩)
-- java/lang/String.length:()I
def Q_sLen0_0 (Z : State) (a : Addr) (t : Addr) (k : ClassId)  (h0 : Heap) (v : Option Value) (h : Heap) (L : List Loc) : Prop := v = some (.int 0) ∧ Fr Z.heap.size L ∧ h = h0
theorem ef_sLen0_0 (m : MethodId) (a : Addr) : entryFrame m #[(.ref a)] 1 = mkF m 0 #[vr a] [] := by first | (simp [entryFrame, mkF, argsToLocals, Value.category, vi, vj, vr]; done) | rfl
theorem d_jdk_42_54_0 : decode jdk_42_method_54_code 0 = .ok (.aload_n 0, 1) := by decide +kernel
theorem d_jdk_42_54_1 : decode jdk_42_method_54_code 1 = .ok (.getfield 9, 3) := by decide +kernel
theorem d_jdk_42_54_4 : decode jdk_42_method_54_code 4 = .ok (.arraylength, 1) := by decide +kernel
theorem d_jdk_42_54_5 : decode jdk_42_method_54_code 5 = .ok (.aload_n 0, 1) := by decide +kernel
theorem d_jdk_42_54_6 : decode jdk_42_method_54_code 6 = .ok (.invokevirtual 335, 3) := by decide +kernel
theorem pd_11 : parseMethodDescriptor "()B" = some ⟨[], some .byte⟩ := by decide +kernel
theorem d_jdk_42_54_9 : decode jdk_42_method_54_code 9 = .ok (.ishr, 1) := by decide +kernel
theorem d_jdk_42_54_10 : decode jdk_42_method_54_code 10 = .ok (.ireturn, 1) := by decide +kernel
set_option maxRecDepth 65536 in
set_option maxHeartbeats 40000000 in
theorem rm_sLen0_0 (l : Launch) {Z : State} {a0 : Array Value} (hD : Wd Z a0) (a : Addr) (t : Addr) (k : ClassId)  {h0 : Heap} (O0 : Ext Z.heap h0) (E_a : Exa Z h0 a "java/lang/String") (F_coder_a : Fld Z h0 a "java/lang/String" "coder" "B" (.int 0)) (F_value_a : Fld Z h0 a "java/lang/String" "value" "[B" (.ref t)) (V_t : Arv Z h0 t k .byte (0 : Int32) [] (.int 0)) :
    Con l Z (⟨"java/lang/String", "length", "()I"⟩ : MethodName) jdk_42_method_54_code 1 (some .int) [] ({ frames := 1, cells := 0, slots := 0, locals := 13 } : Room) #[(.ref a)] h0 (Q_sLen0_0 Z a t k h0) := by
  refine Con.walk (plainFor_of_name pn_1) ?_
  intro p e s m below meth c T0 X0 hx hZ hby hml hown hnm hret hlk e0
  obtain ⟨hw, ⟨cz, S_CS, hcz⟩, ⟨sf, S_SF, hsf⟩, S_AD, S_HI, S_LO⟩ := id hD
  have N0 := Fr.nil Z.heap.size
  refine OEnds.cast (ef_sLen0_0 m a) ?_
  refine OEnds.st (S' := T0.setTop (mkF m 1 #[vr a] [(.ref a)])) (fun _ k => ?_) ?_
  · refine XS.aloadN X0.here hx rfl (hb hby d_jdk_42_54_0) rfl rfl ?_
    exact k
  obtain ⟨T1, X1, e1, st1⟩ := getF X0 hx hZ hown (host := "") (Or.inl (wq hw 33 rfl)) Via.refl e0 F_value_a (g := (mkF m 1 #[vr a] [(.ref a)])) rfl rfl (hb hby d_jdk_42_54_1)
  refine OEnds.st st1 ?_
  obtain ⟨cl_t_2, Ar_t_2, q_t_2, S_t_2, N_t_2, H_t_2, G_t_2⟩ := id V_t
  refine OEnds.st (S' := T1.setTop (mkF m 5 #[vr a] [(.int 0)])) (fun tg kq9 => X1.arraylength hx (by rw [e1]; exact Ar_t_2.1) (State.isArrayOf_alike hZ.alike Ar_t_2.2.1) (g := (mkF m 4 #[vr a] [(.ref t)])) rfl rfl (hb hby d_jdk_42_54_4) tg (by rw [len_of S_t_2 N_t_2]; exact kq9)) ?_
  refine OEnds.st (S' := T1.setTop (mkF m 6 #[vr a] [(.ref a), (.int 0)])) (fun _ k => ?_) ?_
  · refine XS.aloadN X1.here hx rfl (hb hby d_jdk_42_54_5) rfl rfl ?_
    exact k
  obtain ⟨_, T3, h3, L3, X3, e3, hQ3, st3⟩ := virtC X1 hx hZ (y := (⟨"java/lang/String", "coder", "()B"⟩ : MethodName)) (z := (⟨"java/lang/String", "coder", "()B"⟩ : MethodName)) hown (wq hw 62 rfl) (wq hw 63 rfl) (nf_sel (args := #[]) (mvT hZ (wq hw 45 rfl)) rfl) (wq hw 65 rfl) (wq hw 64 rfl) (by decide) (kc := 0) (ks := 0) (Con.sb (W := 1) (rm_coder0 l hD a O0 F_coder_a) hZ (wq hw 66 rfl) (wq hw 8 rfl) (by decide) (by decide)) e1 E_a (g := (mkF m 6 #[vr a] [(.ref a), (.int 0)])) rfl (by rw [hml]; rfl) (argsL := []) (rest := [(.int 0)]) (lenOf pd_11 rfl) rfl (by show 2 * 0 + _ ≤ _; exact Nat.le_of_eq rfl) (hb hby d_jdk_42_54_6) (by decide) (by decide)
  obtain ⟨rfl, Nq3, Hq3⟩ := hQ3
  refine OEnds.st st3 ?_
  replace N0 := Fr.app N0 Nq3
  replace e3 := e3.trans Hq3
  refine OEnds.st (S' := T3.setTop (mkF m 10 #[vr a] [(.int 0)])) (fun _ k => ?_) ?_
  · refine XS.ishr X3.here hx rfl (hb hby d_jdk_42_54_9) rfl ?_
    exact k
  exact OEnds.ret X3 hx hret hlk rfl (Or.inl ⟨rfl, by simp, _, rfl⟩) (hb hby d_jdk_42_54_10) (by decide) (by decide) (by rw [e3]; exact ⟨rfl, N0, rfl⟩)
-- java/lang/String.indexOf:(II)I
def Q_io2_0_0 (Z : State) (a : Addr) (cc : Int32) (t : Addr) (k : ClassId)  (h0 : Heap) (v : Option Value) (h : Heap) (L : List Loc) : Prop := v = some (.int (-1)) ∧ Fr Z.heap.size L ∧ h = h0
theorem ef_io2_0_0 (m : MethodId) (a : Addr) (cc : Int32) : entryFrame m #[(.ref a), (.int cc), (.int 0)] 3 = mkF m 0 #[vr a, vi cc, vi 0] [] := by first | (simp [entryFrame, mkF, argsToLocals, Value.category, vi, vj, vr]; done) | rfl
theorem d_jdk_42_80_0 : decode jdk_42_method_80_code 0 = .ok (.aload_n 0, 1) := by decide +kernel
theorem d_jdk_42_80_1 : decode jdk_42_method_80_code 1 = .ok (.invokevirtual 492, 3) := by decide +kernel
theorem pd_12 : parseMethodDescriptor "()Z" = some ⟨[], some .boolean⟩ := by decide +kernel
theorem d_jdk_42_80_4 : decode jdk_42_method_80_code 4 = .ok (.ifCond .eq 19, 3) := by decide +kernel
theorem d_jdk_42_80_7 : decode jdk_42_method_80_code 7 = .ok (.aload_n 0, 1) := by decide +kernel
theorem d_jdk_42_80_8 : decode jdk_42_method_80_code 8 = .ok (.getfield 9, 3) := by decide +kernel
theorem d_jdk_42_80_11 : decode jdk_42_method_80_code 11 = .ok (.iload_n 1, 1) := by decide +kernel
theorem d_jdk_42_80_12 : decode jdk_42_method_80_code 12 = .ok (.iload_n 2, 1) := by decide +kernel
theorem d_jdk_42_80_13 : decode jdk_42_method_80_code 13 = .ok (.aload_n 0, 1) := by decide +kernel
theorem d_jdk_42_80_14 : decode jdk_42_method_80_code 14 = .ok (.invokevirtual 505, 3) := by decide +kernel
theorem pd_13 : parseMethodDescriptor "()I" = some ⟨[], some .int⟩ := by decide +kernel
theorem d_jdk_42_80_17 : decode jdk_42_method_80_code 17 = .ok (.invokestatic 637, 3) := by decide +kernel
theorem pd_14 : parseMethodDescriptor "([BIII)I" = some ⟨[(.array .byte), .int, .int, .int], some .int⟩ := by decide +kernel
theorem d_jdk_42_80_20 : decode jdk_42_method_80_code 20 = .ok (.goto 16, 3) := by decide +kernel
theorem d_jdk_42_80_36 : decode jdk_42_method_80_code 36 = .ok (.ireturn, 1) := by decide +kernel
set_option maxRecDepth 65536 in
set_option maxHeartbeats 40000000 in
theorem rm_io2_0_0 (l : Launch) {Z : State} {a0 : Array Value} (hD : Wd Z a0) (a : Addr) (cc : Int32) (t : Addr) (k : ClassId)  {h0 : Heap} (O0 : Ext Z.heap h0) (E_a : Exa Z h0 a "java/lang/String") (F_coder_a : Fld Z h0 a "java/lang/String" "coder" "B" (.int 0)) (F_value_a : Fld Z h0 a "java/lang/String" "value" "[B" (.ref t)) (V_t : Arv Z h0 t k .byte (0 : Int32) [] (.int 0)) (hc : ¬ cc < 0 ∧ ¬ (127 : Int32) < cc) :
    Con l Z (⟨"java/lang/String", "indexOf", "(II)I"⟩ : MethodName) jdk_42_method_80_code 3 (some .int) [] ({ frames := 2, cells := 0, slots := 0, locals := 28 } : Room) #[(.ref a), (.int cc), (.int 0)] h0 (Q_io2_0_0 Z a cc t k h0) := by
  refine Con.walk (plainFor_of_name pn_1) ?_
  intro p e s m below meth c T0 X0 hx hZ hby hml hown hnm hret hlk e0
  obtain ⟨hw, ⟨cz, S_CS, hcz⟩, ⟨sf, S_SF, hsf⟩, S_AD, S_HI, S_LO⟩ := id hD
  have N0 := Fr.nil Z.heap.size
  refine OEnds.cast (ef_io2_0_0 m a cc) ?_
  refine OEnds.st (S' := T0.setTop (mkF m 1 #[vr a, vi cc, vi 0] [(.ref a)])) (fun _ k => ?_) ?_
  · refine XS.aloadN X0.here hx rfl (hb hby d_jdk_42_80_0) rfl rfl ?_
    exact k
  obtain ⟨_, T1, h1, L1, X1, e1, hQ1, st1⟩ := virtC X0 hx hZ (y := (⟨"java/lang/String", "isLatin1", "()Z"⟩ : MethodName)) (z := (⟨"java/lang/String", "isLatin1", "()Z"⟩ : MethodName)) hown (wq hw 52 rfl) (wq hw 53 rfl) (nf_sel (args := #[]) (mvT hZ (wq hw 45 rfl)) rfl) (wq hw 55 rfl) (wq hw 54 rfl) (by decide) (kc := 0) (ks := 0) (Con.sb (W := 0) (rm_isLat0 l hD a O0 F_coder_a) hZ (wq hw 56 rfl) (wq hw 8 rfl) (by decide) (by decide)) e0 E_a (g := (mkF m 1 #[vr a, vi cc, vi 0] [(.ref a)])) rfl (by rw [hml]; rfl) (argsL := []) (rest := []) (lenOf pd_12 rfl) rfl (by show 2 * 0 + _ ≤ _; exact Nat.le_of_eq rfl) (hb hby d_jdk_42_80_1) (by decide) (by decide)
  obtain ⟨rfl, Nq1, Hq1⟩ := hQ1
  refine OEnds.st st1 ?_
  replace N0 := Fr.app N0 Nq1
  replace e1 := e1.trans Hq1
  refine OEnds.st (S' := T1.setTop (mkF m 8 #[vr a, vi cc, vi 0] [(.ref a)])) (fun _ k => ?_) ?_
  · refine XS.ifNo X1.here hx rfl (hb hby d_jdk_42_80_4) rfl ((if0 _ _).trans (feq (by decide)).1) ?_
    refine XS.aloadN X1.here hx rfl (hb hby d_jdk_42_80_7) rfl rfl ?_
    exact k
  obtain ⟨T2, X2, e2, st2⟩ := getF X1 hx hZ hown (host := "") (Or.inl (wq hw 33 rfl)) Via.refl e1 F_value_a (g := (mkF m 8 #[vr a, vi cc, vi 0] [(.ref a)])) rfl rfl (hb hby d_jdk_42_80_8)
  refine OEnds.st st2 ?_
  refine OEnds.st (S' := T2.setTop (mkF m 14 #[vr a, vi cc, vi 0] [(.ref a), (.int 0), (.int cc), (.ref t)])) (fun _ k => ?_) ?_
  · refine XS.iloadN X2.here hx rfl (hb hby d_jdk_42_80_11) rfl ?_
    refine XS.iloadN X2.here hx rfl (hb hby d_jdk_42_80_12) rfl ?_
    refine XS.aloadN X2.here hx rfl (hb hby d_jdk_42_80_13) rfl rfl ?_
    exact k
  obtain ⟨_, T3, h3, L3, X3, e3, hQ3, st3⟩ := virtC X2 hx hZ (y := (⟨"java/lang/String", "length", "()I"⟩ : MethodName)) (z := (⟨"java/lang/String", "length", "()I"⟩ : MethodName)) hown (wq hw 57 rfl) (wq hw 58 rfl) (nf_sel (args := #[]) (mvT hZ (wq hw 45 rfl)) rfl) (wq hw 60 rfl) (wq hw 59 rfl) (by decide) (kc := 0) (ks := 0) (Con.sb (W := 3) (rm_sLen0_0 l hD a t k O0 E_a F_coder_a F_value_a V_t) hZ (wq hw 61 rfl) (wq hw 8 rfl) (by decide) (by decide)) e2 E_a (g := (mkF m 14 #[vr a, vi cc, vi 0] [(.ref a), (.int 0), (.int cc), (.ref t)])) rfl (by rw [hml]; rfl) (argsL := []) (rest := [(.int 0), (.int cc), (.ref t)]) (lenOf pd_13 rfl) rfl (by show 2 * 0 + _ ≤ _; exact Nat.le_of_eq rfl) (hb hby d_jdk_42_80_14) (by decide) (by decide)
  obtain ⟨rfl, Nq3, Hq3⟩ := hQ3
  refine OEnds.st st3 ?_
  replace N0 := Fr.app N0 Nq3
  replace e3 := e3.trans Hq3
  obtain ⟨_, T4, h4, L4, X4, e4, hQ4, st4⟩ := callC X3 hx hZ hown (wq hw 67 rfl) (wq hw 68 rfl) (wq hw 69 rfl) (wq hw 70 rfl) (by decide) (kc := 0) (ks := 0) (Con.sb (W := 0) (rm_lio0 l hD t cc k O0 V_t hc) hZ (wq hw 70 rfl) (wq hw 69 rfl) (by decide) (by decide)) e3 (g := (mkF m 17 #[vr a, vi cc, vi 0] [(.int 0), (.int 0), (.int cc), (.ref t)])) rfl (by rw [hml]; rfl) (argsL := [(.ref t), (.int cc), (.int 0), (.int 0)]) (rest := []) (lenOf pd_14 rfl) rfl (by show 2 * 0 + _ ≤ _; exact Nat.le_of_eq rfl) (hb hby d_jdk_42_80_17) (by decide) (by decide)
  obtain ⟨rfl, Nq4, Hq4⟩ := hQ4
  refine OEnds.st st4 ?_
  replace N0 := Fr.app N0 Nq4
  replace e4 := e4.trans Hq4
  refine OEnds.st (S' := T4.setTop (mkF m 36 #[vr a, vi cc, vi 0] [(.int (-1))])) (fun _ k => ?_) ?_
  · refine XS.goto X4.here hx rfl (pc0 := 20) (pc' := 36) rfl (hb hby d_jdk_42_80_20) (by decide) (by decide) ?_
    exact k
  exact OEnds.ret X4 hx hret hlk rfl (Or.inl ⟨rfl, by simp, _, rfl⟩) (hb hby d_jdk_42_80_36) (by decide) (by decide) (by rw [e4]; exact ⟨rfl, N0, rfl⟩)
-- java/lang/String.indexOf:(I)I
def Q_io1_0_0 (Z : State) (a : Addr) (cc : Int32) (t : Addr) (k : ClassId)  (h0 : Heap) (v : Option Value) (h : Heap) (L : List Loc) : Prop := v = some (.int (-1)) ∧ Fr Z.heap.size L ∧ h = h0
theorem ef_io1_0_0 (m : MethodId) (a : Addr) (cc : Int32) : entryFrame m #[(.ref a), (.int cc)] 2 = mkF m 0 #[vr a, vi cc] [] := by first | (simp [entryFrame, mkF, argsToLocals, Value.category, vi, vj, vr]; done) | rfl
theorem d_jdk_42_79_0 : decode jdk_42_method_79_code 0 = .ok (.aload_n 0, 1) := by decide +kernel
theorem d_jdk_42_79_1 : decode jdk_42_method_79_code 1 = .ok (.iload_n 1, 1) := by decide +kernel
theorem d_jdk_42_79_2 : decode jdk_42_method_79_code 2 = .ok (.iconst 0, 1) := by decide +kernel
theorem d_jdk_42_79_3 : decode jdk_42_method_79_code 3 = .ok (.invokevirtual 633, 3) := by decide +kernel
theorem d_jdk_42_79_6 : decode jdk_42_method_79_code 6 = .ok (.ireturn, 1) := by decide +kernel
set_option maxRecDepth 65536 in
set_option maxHeartbeats 40000000 in
theorem rm_io1_0_0 (l : Launch) {Z : State} {a0 : Array Value} (hD : Wd Z a0) (a : Addr) (cc : Int32) (t : Addr) (k : ClassId)  {h0 : Heap} (O0 : Ext Z.heap h0) (E_a : Exa Z h0 a "java/lang/String") (F_coder_a : Fld Z h0 a "java/lang/String" "coder" "B" (.int 0)) (F_value_a : Fld Z h0 a "java/lang/String" "value" "[B" (.ref t)) (V_t : Arv Z h0 t k .byte (0 : Int32) [] (.int 0)) (hc : ¬ cc < 0 ∧ ¬ (127 : Int32) < cc) :
    Con l Z (⟨"java/lang/String", "indexOf", "(I)I"⟩ : MethodName) jdk_42_method_79_code 2 (some .int) [] ({ frames := 3, cells := 0, slots := 0, locals := 42 } : Room) #[(.ref a), (.int cc)] h0 (Q_io1_0_0 Z a cc t k h0) := by
  refine Con.walk (plainFor_of_name pn_1) ?_
  intro p e s m below meth c T0 X0 hx hZ hby hml hown hnm hret hlk e0
  obtain ⟨hw, ⟨cz, S_CS, hcz⟩, ⟨sf, S_SF, hsf⟩, S_AD, S_HI, S_LO⟩ := id hD
  have N0 := Fr.nil Z.heap.size
  refine OEnds.cast (ef_io1_0_0 m a cc) ?_
  refine OEnds.st (S' := T0.setTop (mkF m 3 #[vr a, vi cc] [(.int 0), (.int cc), (.ref a)])) (fun _ k => ?_) ?_
  · refine XS.aloadN X0.here hx rfl (hb hby d_jdk_42_79_0) rfl rfl ?_
    refine XS.iloadN X0.here hx rfl (hb hby d_jdk_42_79_1) rfl ?_
    refine XS.iconst X0.here hx rfl (hb hby d_jdk_42_79_2) ?_
    exact k
  obtain ⟨_, T1, h1, L1, X1, e1, hQ1, st1⟩ := virtC X0 hx hZ (y := (⟨"java/lang/String", "indexOf", "(II)I"⟩ : MethodName)) (z := (⟨"java/lang/String", "indexOf", "(II)I"⟩ : MethodName)) hown (wq hw 47 rfl) (wq hw 48 rfl) (nf_sel (args := #[]) (mvT hZ (wq hw 45 rfl)) rfl) (wq hw 50 rfl) (wq hw 49 rfl) (by decide) (kc := 0) (ks := 0) (Con.sb (W := 0) (rm_io2_0_0 l hD a cc t k O0 E_a F_coder_a F_value_a V_t hc) hZ (wq hw 51 rfl) (wq hw 8 rfl) (by decide) (by decide)) e0 E_a (g := (mkF m 3 #[vr a, vi cc] [(.int 0), (.int cc), (.ref a)])) rfl (by rw [hml]; rfl) (argsL := [(.int cc), (.int 0)]) (rest := []) (lenOf pd_10 rfl) rfl (by show 2 * 0 + _ ≤ _; exact Nat.le_of_eq rfl) (hb hby d_jdk_42_79_3) (by decide) (by decide)
  obtain ⟨rfl, Nq1, Hq1⟩ := hQ1
  refine OEnds.st st1 ?_
  replace N0 := Fr.app N0 Nq1
  replace e1 := e1.trans Hq1
  exact OEnds.ret X1 hx hret hlk rfl (Or.inl ⟨rfl, by simp, _, rfl⟩) (hb hby d_jdk_42_79_6) (by decide) (by decide) (by rw [e1]; exact ⟨rfl, N0, rfl⟩)
-- com/example/exact_gate/exactgate/Names.requireOneLine:(Ljava/lang/String;Ljava/lang/String;)Ljava/lang/String;
def Q_req0_0 (Z : State) (a : Addr) (nm : Addr) (t : Addr) (k : ClassId)  (h0 : Heap) (v : Option Value) (h : Heap) (L : List Loc) : Prop := v = some (.ref a) ∧ Fr Z.heap.size L ∧ h = h0
theorem ef_req0_0 (m : MethodId) (a : Addr) (nm : Addr) : entryFrame m #[(.ref a), (.ref nm)] 2 = mkF m 0 #[vr a, vr nm] [] := by first | (simp [entryFrame, mkF, argsToLocals, Value.category, vi, vj, vr]; done) | rfl
theorem pn_5 : plainName "com/example/exact_gate/exactgate/Names" = true := by first | (simp [plainName, overriddenIn]; done) | decide +kernel
theorem d_prog_2_6_0 : decode prog_2_method_6_code 0 = .ok (.aload_n 0, 1) := by decide +kernel
theorem d_prog_2_6_1 : decode prog_2_method_6_code 1 = .ok (.bipush 10, 2) := by decide +kernel
theorem d_prog_2_6_3 : decode prog_2_method_6_code 3 = .ok (.invokevirtual 80, 3) := by decide +kernel
theorem d_prog_2_6_6 : decode prog_2_method_6_code 6 = .ok (.ifCond .ge 12, 3) := by decide +kernel
theorem d_prog_2_6_9 : decode prog_2_method_6_code 9 = .ok (.aload_n 0, 1) := by decide +kernel
theorem d_prog_2_6_10 : decode prog_2_method_6_code 10 = .ok (.bipush 13, 2) := by decide +kernel
theorem d_prog_2_6_12 : decode prog_2_method_6_code 12 = .ok (.invokevirtual 80, 3) := by decide +kernel
theorem d_prog_2_6_15 : decode prog_2_method_6_code 15 = .ok (.ifCond .lt 17, 3) := by decide +kernel
theorem d_prog_2_6_32 : decode prog_2_method_6_code 32 = .ok (.aload_n 0, 1) := by decide +kernel
theorem d_prog_2_6_33 : decode prog_2_method_6_code 33 = .ok (.areturn, 1) := by decide +kernel
set_option maxRecDepth 65536 in
set_option maxHeartbeats 40000000 in
theorem rm_req0_0 (l : Launch) {Z : State} {a0 : Array Value} (hD : Wd Z a0) (a : Addr) (nm : Addr) (t : Addr) (k : ClassId)  {h0 : Heap} (O0 : Ext Z.heap h0) (E_a : Exa Z h0 a "java/lang/String") (F_coder_a : Fld Z h0 a "java/lang/String" "coder" "B" (.int 0)) (F_value_a : Fld Z h0 a "java/lang/String" "value" "[B" (.ref t)) (V_t : Arv Z h0 t k .byte (0 : Int32) [] (.int 0)) :
    Con l Z (⟨"com/example/exact_gate/exactgate/Names", "requireOneLine", "(Ljava/lang/String;Ljava/lang/String;)Ljava/lang/String;"⟩ : MethodName) prog_2_method_6_code 2 (some (.object "java/lang/String")) [] ({ frames := 4, cells := 0, slots := 0, locals := 55 } : Room) #[(.ref a), (.ref nm)] h0 (Q_req0_0 Z a nm t k h0) := by
  refine Con.walk (plainFor_of_name pn_5) ?_
  intro p e s m below meth c T0 X0 hx hZ hby hml hown hnm hret hlk e0
  obtain ⟨hw, ⟨cz, S_CS, hcz⟩, ⟨sf, S_SF, hsf⟩, S_AD, S_HI, S_LO⟩ := id hD
  have N0 := Fr.nil Z.heap.size
  refine OEnds.cast (ef_req0_0 m a nm) ?_
  refine OEnds.st (S' := T0.setTop (mkF m 3 #[vr a, vr nm] [(.int 10), (.ref a)])) (fun _ k => ?_) ?_
  · refine XS.aloadN X0.here hx rfl (hb hby d_prog_2_6_0) rfl rfl ?_
    refine XS.bipush X0.here hx rfl (hb hby d_prog_2_6_1) ?_
    exact k
  obtain ⟨_, T1, h1, L1, X1, e1, hQ1, st1⟩ := virtC X0 hx hZ (y := (⟨"java/lang/String", "indexOf", "(I)I"⟩ : MethodName)) (z := (⟨"java/lang/String", "indexOf", "(I)I"⟩ : MethodName)) hown (wq hw 42 rfl) (wq hw 43 rfl) (nf_sel (args := #[]) (mvT hZ (wq hw 45 rfl)) rfl) (wq hw 45 rfl) (wq hw 44 rfl) (by decide) (kc := 0) (ks := 0) (Con.sb (W := 0) (rm_io1_0_0 l hD a (10 : Int32) t k O0 E_a F_coder_a F_value_a V_t ⟨by decide, by decide⟩) hZ (wq hw 46 rfl) (wq hw 8 rfl) (by decide) (by decide)) e0 E_a (g := (mkF m 3 #[vr a, vr nm] [(.int 10), (.ref a)])) rfl (by rw [hml]; rfl) (argsL := [(.int 10)]) (rest := []) (lenOf pd_1 rfl) rfl (by show 2 * 0 + _ ≤ _; exact Nat.le_of_eq rfl) (hb hby d_prog_2_6_3) (by decide) (by decide)
  obtain ⟨rfl, Nq1, Hq1⟩ := hQ1
  refine OEnds.st st1 ?_
  replace N0 := Fr.app N0 Nq1
  replace e1 := e1.trans Hq1
  refine OEnds.st (S' := T1.setTop (mkF m 12 #[vr a, vr nm] [(.int 13), (.ref a)])) (fun _ k => ?_) ?_
  · refine XS.ifNo X1.here hx rfl (hb hby d_prog_2_6_6) rfl ((if0 _ _).trans (tlt (by decide)).2.1) ?_
    refine XS.aloadN X1.here hx rfl (hb hby d_prog_2_6_9) rfl rfl ?_
    refine XS.bipush X1.here hx rfl (hb hby d_prog_2_6_10) ?_
    exact k
  obtain ⟨_, T2, h2, L2, X2, e2, hQ2, st2⟩ := virtC X1 hx hZ (y := (⟨"java/lang/String", "indexOf", "(I)I"⟩ : MethodName)) (z := (⟨"java/lang/String", "indexOf", "(I)I"⟩ : MethodName)) hown (wq hw 42 rfl) (wq hw 43 rfl) (nf_sel (args := #[]) (mvT hZ (wq hw 45 rfl)) rfl) (wq hw 45 rfl) (wq hw 44 rfl) (by decide) (kc := 0) (ks := 0) (Con.sb (W := 0) (rm_io1_0_0 l hD a (13 : Int32) t k O0 E_a F_coder_a F_value_a V_t ⟨by decide, by decide⟩) hZ (wq hw 46 rfl) (wq hw 8 rfl) (by decide) (by decide)) e1 E_a (g := (mkF m 12 #[vr a, vr nm] [(.int 13), (.ref a)])) rfl (by rw [hml]; rfl) (argsL := [(.int 13)]) (rest := []) (lenOf pd_1 rfl) rfl (by show 2 * 0 + _ ≤ _; exact Nat.le_of_eq rfl) (hb hby d_prog_2_6_12) (by decide) (by decide)
  obtain ⟨rfl, Nq2, Hq2⟩ := hQ2
  refine OEnds.st st2 ?_
  replace N0 := Fr.app N0 Nq2
  replace e2 := e2.trans Hq2
  refine OEnds.st (S' := T2.setTop (mkF m 33 #[vr a, vr nm] [(.ref a)])) (fun _ k => ?_) ?_
  · refine XS.ifYes X2.here hx rfl (pc0 := 15) (pc' := 32) rfl (hb hby d_prog_2_6_15) rfl ((if0 _ _).trans (tlt (by decide)).1) (by decide) (by decide) ?_
    refine XS.aloadN X2.here hx rfl (hb hby d_prog_2_6_32) rfl rfl ?_
    exact k
  exact OEnds.ret X2 hx hret hlk rfl (Or.inr (Or.inr (Or.inr (Or.inr ⟨rfl, rfl, rfl⟩)))) (hb hby d_prog_2_6_33) (by decide) (by decide) (by rw [e2]; exact ⟨rfl, N0, rfl⟩)
-- java/lang/StringLatin1.indexOfChar:([BIII)I
def Q_ioc1 (Z : State) (t : Addr) (cc : Int32) (k : ClassId) (x0 : Int32) (h0 : Heap) (v : Option Value) (h : Heap) (L : List Loc) : Prop := v = some (.int (-1)) ∧ Fr Z.heap.size L ∧ h = h0
theorem ef_ioc1 (m : MethodId) (t : Addr) (cc : Int32) : entryFrame m #[(.ref t), (.int cc), (.int 0), (.int 1)] 6 = mkF m 0 #[vr t, vi cc, vi 0, vi 1, .unset, .unset] [] := by first | (simp [entryFrame, mkF, argsToLocals, Value.category, vi, vj, vr]; done) | rfl
theorem d_jdk_43_23_0 : decode jdk_43_method_23_code 0 = .ok (.iload_n 1, 1) := by decide +kernel
theorem d_jdk_43_23_1 : decode jdk_43_method_23_code 1 = .ok (.i2b, 1) := by decide +kernel
theorem d_jdk_43_23_2 : decode jdk_43_method_23_code 2 = .ok (.istore 4, 2) := by decide +kernel
theorem d_jdk_43_23_4 : decode jdk_43_method_23_code 4 = .ok (.iload_n 2, 1) := by decide +kernel
theorem d_jdk_43_23_5 : decode jdk_43_method_23_code 5 = .ok (.istore 5, 2) := by decide +kernel
theorem d_jdk_43_23_7 : decode jdk_43_method_23_code 7 = .ok (.iload 5, 2) := by decide +kernel
theorem d_jdk_43_23_9 : decode jdk_43_method_23_code 9 = .ok (.iload_n 3, 1) := by decide +kernel
theorem d_jdk_43_23_10 : decode jdk_43_method_23_code 10 = .ok (.if_icmp .ge 21, 3) := by decide +kernel
theorem d_jdk_43_23_13 : decode jdk_43_method_23_code 13 = .ok (.aload_n 0, 1) := by decide +kernel
theorem d_jdk_43_23_14 : decode jdk_43_method_23_code 14 = .ok (.iload 5, 2) := by decide +kernel
theorem d_jdk_43_23_16 : decode jdk_43_method_23_code 16 = .ok (.baload, 1) := by decide +kernel
theorem d_jdk_43_23_17 : decode jdk_43_method_23_code 17 = .ok (.iload 4, 2) := by decide +kernel
theorem d_jdk_43_23_19 : decode jdk_43_method_23_code 19 = .ok (.if_icmp .ne 6, 3) := by decide +kernel
theorem d_jdk_43_23_25 : decode jdk_43_method_23_code 25 = .ok (.iinc 5 1, 3) := by decide +kernel
theorem d_jdk_43_23_28 : decode jdk_43_method_23_code 28 = .ok (.goto (-21), 3) := by decide +kernel
theorem d_jdk_43_23_31 : decode jdk_43_method_23_code 31 = .ok (.iconst (-1), 1) := by decide +kernel
theorem d_jdk_43_23_32 : decode jdk_43_method_23_code 32 = .ok (.ireturn, 1) := by decide +kernel
set_option maxRecDepth 65536 in
set_option maxHeartbeats 40000000 in
theorem rm_ioc1 (l : Launch) {Z : State} {a0 : Array Value} (hD : Wd Z a0) (t : Addr) (cc : Int32) (k : ClassId) (x0 : Int32) {h0 : Heap} (O0 : Ext Z.heap h0) (V_t : Arv Z h0 t k .byte (1 : Int32) [(.int (x0.toInt8.toInt32))] (.int 0)) (hx0 : ¬ x0 < 0 ∧ ¬ (65535 : Int32) < x0) (hl0 : ¬ (255 : Int32) < x0) (hn0 : ¬ x0 = cc) (hc : ¬ cc < 0 ∧ ¬ (127 : Int32) < cc) :
    Con l Z (⟨"java/lang/StringLatin1", "indexOfChar", "([BIII)I"⟩ : MethodName) jdk_43_method_23_code 6 (some .int) [] ({ frames := 0, cells := 0, slots := 0, locals := 0 } : Room) #[(.ref t), (.int cc), (.int 0), (.int 1)] h0 (Q_ioc1 Z t cc k x0 h0) := by
  refine Con.walk (plainFor_of_name pn_2) ?_
  intro p e s m below meth c T0 X0 hx hZ hby hml hown hnm hret hlk e0
  obtain ⟨hw, ⟨cz, S_CS, hcz⟩, ⟨sf, S_SF, hsf⟩, S_AD, S_HI, S_LO⟩ := id hD
  have N0 := Fr.nil Z.heap.size
  refine OEnds.cast (ef_ioc1 m t cc) ?_
  refine OEnds.st (S' := T0.setTop (mkF m 16 #[vr t, vi cc, vi 0, vi 1, vi (cc.toInt8.toInt32), vi 0] [(.int 0), (.ref t)])) (fun _ k => ?_) ?_
  · refine XS.iloadN X0.here hx rfl (hb hby d_jdk_43_23_0) rfl ?_
    refine XS.i2b X0.here hx rfl (hb hby d_jdk_43_23_1) rfl ?_
    refine XS.istore X0.here hx rfl (hb hby d_jdk_43_23_2) rfl (l' := #[vr t, vi cc, vi 0, vi 1, vi (cc.toInt8.toInt32), .unset]) rfl ?_
    refine XS.iloadN X0.here hx rfl (hb hby d_jdk_43_23_4) rfl ?_
    show Steps p.tables e below (T0.setTop (mkF m 5 #[vr t, vi cc, vi 0, vi 1, vi (cc.toInt8.toInt32), .unset] [(.int 0)])) _
    refine XS.istore X0.here hx rfl (hb hby d_jdk_43_23_5) rfl (l' := #[vr t, vi cc, vi 0, vi 1, vi (cc.toInt8.toInt32), vi 0]) rfl ?_
    refine XS.iload X0.here hx rfl (hb hby d_jdk_43_23_7) rfl ?_
    refine XS.iloadN X0.here hx rfl (hb hby d_jdk_43_23_9) rfl ?_
    refine XS.icmpNo X0.here hx rfl (hb hby d_jdk_43_23_10) rfl (tlt (by decide)).2.1 ?_
    show Steps p.tables e below (T0.setTop (mkF m 13 #[vr t, vi cc, vi 0, vi 1, vi (cc.toInt8.toInt32), vi 0] [])) _
    refine XS.aloadN X0.here hx rfl (hb hby d_jdk_43_23_13) rfl rfl ?_
    refine XS.iload X0.here hx rfl (hb hby d_jdk_43_23_14) rfl ?_
    exact k
  obtain ⟨cl_t_1, Ar_t_1, q_t_1, S_t_1, N_t_1, H_t_1, G_t_1⟩ := id V_t
  refine OEnds.st (S' := T0.setTop (mkF m 17 #[vr t, vi cc, vi 0, vi 1, vi (cc.toInt8.toInt32), vi 0] [(.int (x0.toInt8.toInt32))])) (X0.baloadBytes hx (j := (0 : Int32)) (v := (.int (x0.toInt8.toInt32))) (by rw [e0]; exact Ar_t_1.1) (State.isArrayOf_alike hZ.alike Ar_t_1.2.1) Ar_t_1.2.2 (inb_of S_t_1 ⟨by decide, by decide⟩) (H_t_1.at (inb_of S_t_1 ⟨by decide, by decide⟩) rfl) (g := (mkF m 16 #[vr t, vi cc, vi 0, vi 1, vi (cc.toInt8.toInt32), vi 0] [(.int 0), (.ref t)])) rfl rfl (hb hby d_jdk_43_23_16)) ?_
  refine OEnds.st (S' := T0.setTop (mkF m 25 #[vr t, vi cc, vi 0, vi 1, vi (cc.toInt8.toInt32), vi 0] [])) (fun _ k => ?_) ?_
  · refine XS.iload X0.here hx rfl (hb hby d_jdk_43_23_17) rfl ?_
    refine XS.icmpYes X0.here hx rfl (pc0 := 19) (pc' := 25) rfl (hb hby d_jdk_43_23_19) rfl (feq (b8_ne (lt16 hx0 hl0) hc hn0)).2 (by decide) (by decide) ?_
    exact k
  refine OEnds.st (S' := T0.setTop (mkF m 7 #[vr t, vi cc, vi 0, vi 1, vi (cc.toInt8.toInt32), vi 1] [])) (fun _ k => ?_) ?_
  · refine XS.iinc X0.here hx rfl (hb hby d_jdk_43_23_25) rfl (l' := #[vr t, vi cc, vi 0, vi 1, vi (cc.toInt8.toInt32), vi 1]) rfl ?_
    refine XS.goto X0.here hx rfl (pc0 := 28) (pc' := 7) rfl (hb hby d_jdk_43_23_28) (by decide) (by decide) ?_
    exact k
  refine OEnds.st (S' := T0.setTop (mkF m 32 #[vr t, vi cc, vi 0, vi 1, vi (cc.toInt8.toInt32), vi 1] [(.int (-1))])) (fun _ k => ?_) ?_
  · refine XS.iload X0.here hx rfl (hb hby d_jdk_43_23_7) rfl ?_
    refine XS.iloadN X0.here hx rfl (hb hby d_jdk_43_23_9) rfl ?_
    refine XS.icmpYes X0.here hx rfl (pc0 := 10) (pc' := 31) rfl (hb hby d_jdk_43_23_10) rfl (flt (by decide)).2.1 (by decide) (by decide) ?_
    refine XS.iconst X0.here hx rfl (hb hby d_jdk_43_23_31) ?_
    exact k
  exact OEnds.ret X0 hx hret hlk rfl (Or.inl ⟨rfl, by simp, _, rfl⟩) (hb hby d_jdk_43_23_32) (by decide) (by decide) (by rw [e0]; exact ⟨rfl, N0, rfl⟩)
-- java/lang/StringLatin1.indexOf:([BIII)I
def Q_lio1 (Z : State) (t : Addr) (cc : Int32) (k : ClassId) (x0 : Int32) (h0 : Heap) (v : Option Value) (h : Heap) (L : List Loc) : Prop := v = some (.int (-1)) ∧ Fr Z.heap.size L ∧ h = h0
theorem ef_lio1 (m : MethodId) (t : Addr) (cc : Int32) : entryFrame m #[(.ref t), (.int cc), (.int 0), (.int 1)] 4 = mkF m 0 #[vr t, vi cc, vi 0, vi 1] [] := by first | (simp [entryFrame, mkF, argsToLocals, Value.category, vi, vj, vr]; done) | rfl
theorem d_jdk_43_22_29 : decode jdk_43_method_22_code 29 = .ok (.aload_n 0, 1) := by decide +kernel
theorem d_jdk_43_22_30 : decode jdk_43_method_22_code 30 = .ok (.iload_n 1, 1) := by decide +kernel
theorem d_jdk_43_22_31 : decode jdk_43_method_22_code 31 = .ok (.iload_n 2, 1) := by decide +kernel
theorem d_jdk_43_22_32 : decode jdk_43_method_22_code 32 = .ok (.iload_n 3, 1) := by decide +kernel
theorem d_jdk_43_22_33 : decode jdk_43_method_22_code 33 = .ok (.invokestatic 95, 3) := by decide +kernel
theorem d_jdk_43_22_36 : decode jdk_43_method_22_code 36 = .ok (.ireturn, 1) := by decide +kernel
set_option maxRecDepth 65536 in
set_option maxHeartbeats 40000000 in
theorem rm_lio1 (l : Launch) {Z : State} {a0 : Array Value} (hD : Wd Z a0) (t : Addr) (cc : Int32) (k : ClassId) (x0 : Int32) {h0 : Heap} (O0 : Ext Z.heap h0) (V_t : Arv Z h0 t k .byte (1 : Int32) [(.int (x0.toInt8.toInt32))] (.int 0)) (hx0 : ¬ x0 < 0 ∧ ¬ (65535 : Int32) < x0) (hl0 : ¬ (255 : Int32) < x0) (hn0 : ¬ x0 = cc) (hc : ¬ cc < 0 ∧ ¬ (127 : Int32) < cc) :
    Con l Z (⟨"java/lang/StringLatin1", "indexOf", "([BIII)I"⟩ : MethodName) jdk_43_method_22_code 4 (some .int) [] ({ frames := 1, cells := 0, slots := 0, locals := 17 } : Room) #[(.ref t), (.int cc), (.int 0), (.int 1)] h0 (Q_lio1 Z t cc k x0 h0) := by
  refine Con.walk (plainFor_of_name pn_2) ?_
  intro p e s m below meth c T0 X0 hx hZ hby hml hown hnm hret hlk e0
  obtain ⟨hw, ⟨cz, S_CS, hcz⟩, ⟨sf, S_SF, hsf⟩, S_AD, S_HI, S_LO⟩ := id hD
  have N0 := Fr.nil Z.heap.size
  refine OEnds.cast (ef_lio1 m t cc) ?_
  refine OEnds.st (S' := T0.setTop (mkF m 1 #[vr t, vi cc, vi 0, vi 1] [(.int cc)])) (fun _ k => ?_) ?_
  · refine XS.iloadN X0.here hx rfl (hb hby d_jdk_43_22_0) rfl ?_
    exact k
  obtain ⟨_, T1, h1, L1, X1, e1, hQ1, st1⟩ := callC X0 hx hZ hown (wq hw 71 rfl) (wq hw 72 rfl) (wq hw 69 rfl) (wq hw 73 rfl) (by decide) (kc := 0) (ks := 0) (Con.sb (W := 0) (rm_canEnc l hD cc O0 hc) hZ (wq hw 73 rfl) (wq hw 69 rfl) (by decide) (by decide)) e0 (g := (mkF m 1 #[vr t, vi cc, vi 0, vi 1] [(.int cc)])) rfl (by rw [hml]; rfl) (argsL := [(.int cc)]) (rest := []) (lenOf pd_9 rfl) rfl (by show 2 * 0 + _ ≤ _; exact Nat.le_of_eq rfl) (hb hby d_jdk_43_22_1) (by decide) (by decide)
  obtain ⟨rfl, Nq1, Hq1⟩ := hQ1
  refine OEnds.st st1 ?_
  replace N0 := Fr.app N0 Nq1
  replace e1 := e1.trans Hq1
  refine OEnds.st (S' := T1.setTop (mkF m 11 #[vr t, vi cc, vi 0, vi 1] [(.int 0), (.int 0)])) (fun _ k => ?_) ?_
  · refine XS.ifYes X1.here hx rfl (pc0 := 4) (pc' := 9) rfl (hb hby d_jdk_43_22_4) rfl ((if0 _ _).trans (feq (by decide)).2) (by decide) (by decide) ?_
    refine XS.iloadN X1.here hx rfl (hb hby d_jdk_43_22_9) rfl ?_
    refine XS.iconst X1.here hx rfl (hb hby d_jdk_43_22_10) ?_
    exact k
  obtain ⟨_, T2, h2, L2, X2, e2, hQ2, st2⟩ := callC X1 hx hZ hown (wq hw 74 rfl) (wq hw 75 rfl) (wq hw 76 rfl) (wq hw 77 rfl) (by decide) (kc := 0) (ks := 0) (Con.sb (W := 0) (rm_max00 l hD  O0) hZ (wq hw 77 rfl) (wq hw 76 rfl) (by decide) (by decide)) e1 (g := (mkF m 11 #[vr t, vi cc, vi 0, vi 1] [(.int 0), (.int 0)])) rfl (by rw [hml]; rfl) (argsL := [(.int 0), (.int 0)]) (rest := []) (lenOf pd_10 rfl) rfl (by show 2 * 0 + _ ≤ _; exact Nat.le_of_eq rfl) (hb hby d_jdk_43_22_11) (by decide) (by decide)
  obtain ⟨rfl, Nq2, Hq2⟩ := hQ2
  refine OEnds.st st2 ?_
  replace N0 := Fr.app N0 Nq2
  replace e2 := e2.trans Hq2
  refine OEnds.st (S' := T2.setTop (mkF m 17 #[vr t, vi cc, vi 0, vi 1] [(.ref t), (.int 1)])) (fun _ k => ?_) ?_
  · refine XS.istoreN X2.here hx rfl (hb hby d_jdk_43_22_14) rfl (l' := #[vr t, vi cc, vi 0, vi 1]) rfl ?_
    refine XS.iloadN X2.here hx rfl (hb hby d_jdk_43_22_15) rfl ?_
    refine XS.aloadN X2.here hx rfl (hb hby d_jdk_43_22_16) rfl rfl ?_
    exact k
  obtain ⟨cl_t_3, Ar_t_3, q_t_3, S_t_3, N_t_3, H_t_3, G_t_3⟩ := id V_t
  refine OEnds.st (S' := T2.setTop (mkF m 18 #[vr t, vi cc, vi 0, vi 1] [(.int 1), (.int 1)])) (fun tg kq9 => X2.arraylength hx (by rw [e2]; exact Ar_t_3.1) (State.isArrayOf_alike hZ.alike Ar_t_3.2.1) (g := (mkF m 17 #[vr t, vi cc, vi 0, vi 1] [(.ref t), (.int 1)])) rfl rfl (hb hby d_jdk_43_22_17) tg (by rw [len_of S_t_3 N_t_3]; exact kq9)) ?_
  obtain ⟨_, T4, h4, L4, X4, e4, hQ4, st4⟩ := callC X2 hx hZ hown (wq hw 78 rfl) (wq hw 79 rfl) (wq hw 76 rfl) (wq hw 80 rfl) (by decide) (kc := 0) (ks := 0) (Con.sb (W := 0) (rm_minSame l hD (1 : Int32) O0) hZ (wq hw 80 rfl) (wq hw 76 rfl) (by decide) (by decide)) e2 (g := (mkF m 18 #[vr t, vi cc, vi 0, vi 1] [(.int 1), (.int 1)])) rfl (by rw [hml]; rfl) (argsL := [(.int 1), (.int 1)]) (rest := []) (lenOf pd_10 rfl) rfl (by show 2 * 0 + _ ≤ _; exact Nat.le_of_eq rfl) (hb hby d_jdk_43_22_18) (by decide) (by decide)
  obtain ⟨rfl, Nq4, Hq4⟩ := hQ4
  refine OEnds.st st4 ?_
  replace N0 := Fr.app N0 Nq4
  replace e4 := e4.trans Hq4
  refine OEnds.st (S' := T4.setTop (mkF m 33 #[vr t, vi cc, vi 0, vi 1] [(.int 1), (.int 0), (.int cc), (.ref t)])) (fun _ k => ?_) ?_
  · refine XS.istoreN X4.here hx rfl (hb hby d_jdk_43_22_21) rfl (l' := #[vr t, vi cc, vi 0, vi 1]) rfl ?_
    refine XS.iloadN X4.here hx rfl (hb hby d_jdk_43_22_22) rfl ?_
    refine XS.iloadN X4.here hx rfl (hb hby d_jdk_43_22_23) rfl ?_
    refine XS.icmpYes X4.here hx rfl (pc0 := 24) (pc' := 29) rfl (hb hby d_jdk_43_22_24) rfl (tlt (by decide)).1 (by decide) (by decide) ?_
    show Steps p.tables e below (T4.setTop (mkF m 29 #[vr t, vi cc, vi 0, vi 1] [])) _
    refine XS.aloadN X4.here hx rfl (hb hby d_jdk_43_22_29) rfl rfl ?_
    refine XS.iloadN X4.here hx rfl (hb hby d_jdk_43_22_30) rfl ?_
    refine XS.iloadN X4.here hx rfl (hb hby d_jdk_43_22_31) rfl ?_
    refine XS.iloadN X4.here hx rfl (hb hby d_jdk_43_22_32) rfl ?_
    exact k
  obtain ⟨_, T5, h5, L5, X5, e5, hQ5, st5⟩ := callC X4 hx hZ hown (wq hw 81 rfl) (wq hw 82 rfl) (wq hw 69 rfl) (wq hw 83 rfl) (by decide) (kc := 0) (ks := 0) (Con.sb (W := 0) (rm_ioc1 l hD t cc k x0 O0 V_t hx0 hl0 hn0 hc) hZ (wq hw 83 rfl) (wq hw 69 rfl) (by decide) (by decide)) e4 (g := (mkF m 33 #[vr t, vi cc, vi 0, vi 1] [(.int 1), (.int 0), (.int cc), (.ref t)])) rfl (by rw [hml]; rfl) (argsL := [(.ref t), (.int cc), (.int 0), (.int 1)]) (rest := []) (lenOf pd_14 rfl) rfl (by show 2 * 0 + _ ≤ _; exact Nat.le_of_eq rfl) (hb hby d_jdk_43_22_33) (by decide) (by decide)
  obtain ⟨rfl, Nq5, Hq5⟩ := hQ5
  refine OEnds.st st5 ?_
  replace N0 := Fr.app N0 Nq5
  replace e5 := e5.trans Hq5
  exact OEnds.ret X5 hx hret hlk rfl (Or.inl ⟨rfl, by simp, _, rfl⟩) (hb hby d_jdk_43_22_36) (by decide) (by decide) (by rw [e5]; exact ⟨rfl, N0, rfl⟩)
-- java/lang/String.length:()I
def Q_sLen1_0 (Z : State) (a : Addr) (t : Addr) (k : ClassId) (x0 : Int32) (h0 : Heap) (v : Option Value) (h : Heap) (L : List Loc) : Prop := v = some (.int 1) ∧ Fr Z.heap.size L ∧ h = h0
theorem ef_sLen1_0 (m : MethodId) (a : Addr) : entryFrame m #[(.ref a)] 1 = mkF m 0 #[vr a] [] := by first | (simp [entryFrame, mkF, argsToLocals, Value.category, vi, vj, vr]; done) | rfl
set_option maxRecDepth 65536 in
set_option maxHeartbeats 40000000 in
theorem rm_sLen1_0 (l : Launch) {Z : State} {a0 : Array Value} (hD : Wd Z a0) (a : Addr) (t : Addr) (k : ClassId) (x0 : Int32) {h0 : Heap} (O0 : Ext Z.heap h0) (E_a : Exa Z h0 a "java/lang/String") (F_coder_a : Fld Z h0 a "java/lang/String" "coder" "B" (.int 0)) (F_value_a : Fld Z h0 a "java/lang/String" "value" "[B" (.ref t)) (V_t : Arv Z h0 t k .byte (1 : Int32) [(.int (x0.toInt8.toInt32))] (.int 0)) :
    Con l Z (⟨"java/lang/String", "length", "()I"⟩ : MethodName) jdk_42_method_54_code 1 (some .int) [] ({ frames := 1, cells := 0, slots := 0, locals := 13 } : Room) #[(.ref a)] h0 (Q_sLen1_0 Z a t k x0 h0) := by
  refine Con.walk (plainFor_of_name pn_1) ?_
  intro p e s m below meth c T0 X0 hx hZ hby hml hown hnm hret hlk e0
  obtain ⟨hw, ⟨cz, S_CS, hcz⟩, ⟨sf, S_SF, hsf⟩, S_AD, S_HI, S_LO⟩ := id hD
  have N0 := Fr.nil Z.heap.size
  refine OEnds.cast (ef_sLen1_0 m a) ?_
  refine OEnds.st (S' := T0.setTop (mkF m 1 #[vr a] [(.ref a)])) (fun _ k => ?_) ?_
  · refine XS.aloadN X0.here hx rfl (hb hby d_jdk_42_54_0) rfl rfl ?_
    exact k
  obtain ⟨T1, X1, e1, st1⟩ := getF X0 hx hZ hown (host := "") (Or.inl (wq hw 33 rfl)) Via.refl e0 F_value_a (g := (mkF m 1 #[vr a] [(.ref a)])) rfl rfl (hb hby d_jdk_42_54_1)
  refine OEnds.st st1 ?_
  obtain ⟨cl_t_2, Ar_t_2, q_t_2, S_t_2, N_t_2, H_t_2, G_t_2⟩ := id V_t
  refine OEnds.st (S' := T1.setTop (mkF m 5 #[vr a] [(.int 1)])) (fun tg kq9 => X1.arraylength hx (by rw [e1]; exact Ar_t_2.1) (State.isArrayOf_alike hZ.alike Ar_t_2.2.1) (g := (mkF m 4 #[vr a] [(.ref t)])) rfl rfl (hb hby d_jdk_42_54_4) tg (by rw [len_of S_t_2 N_t_2]; exact kq9)) ?_
  refine OEnds.st (S' := T1.setTop (mkF m 6 #[vr a] [(.ref a), (.int 1)])) (fun _ k => ?_) ?_
  · refine XS.aloadN X1.here hx rfl (hb hby d_jdk_42_54_5) rfl rfl ?_
    exact k
  obtain ⟨_, T3, h3, L3, X3, e3, hQ3, st3⟩ := virtC X1 hx hZ (y := (⟨"java/lang/String", "coder", "()B"⟩ : MethodName)) (z := (⟨"java/lang/String", "coder", "()B"⟩ : MethodName)) hown (wq hw 62 rfl) (wq hw 63 rfl) (nf_sel (args := #[]) (mvT hZ (wq hw 45 rfl)) rfl) (wq hw 65 rfl) (wq hw 64 rfl) (by decide) (kc := 0) (ks := 0) (Con.sb (W := 1) (rm_coder0 l hD a O0 F_coder_a) hZ (wq hw 66 rfl) (wq hw 8 rfl) (by decide) (by decide)) e1 E_a (g := (mkF m 6 #[vr a] [(.ref a), (.int 1)])) rfl (by rw [hml]; rfl) (argsL := []) (rest := [(.int 1)]) (lenOf pd_11 rfl) rfl (by show 2 * 0 + _ ≤ _; exact Nat.le_of_eq rfl) (hb hby d_jdk_42_54_6) (by decide) (by decide)
  obtain ⟨rfl, Nq3, Hq3⟩ := hQ3
  refine OEnds.st st3 ?_
  replace N0 := Fr.app N0 Nq3
  replace e3 := e3.trans Hq3
  refine OEnds.st (S' := T3.setTop (mkF m 10 #[vr a] [(.int 1)])) (fun _ k => ?_) ?_
  · refine XS.ishr X3.here hx rfl (hb hby d_jdk_42_54_9) rfl ?_
    exact k
  exact OEnds.ret X3 hx hret hlk rfl (Or.inl ⟨rfl, by simp, _, rfl⟩) (hb hby d_jdk_42_54_10) (by decide) (by decide) (by rw [e3]; exact ⟨rfl, N0, rfl⟩)
-- java/lang/String.indexOf:(II)I
def Q_io2_1_0 (Z : State) (a : Addr) (cc : Int32) (t : Addr) (k : ClassId) (x0 : Int32) (h0 : Heap) (v : Option Value) (h : Heap) (L : List Loc) : Prop := v = some (.int (-1)) ∧ Fr Z.heap.size L ∧ h = h0
theorem ef_io2_1_0 (m : MethodId) (a : Addr) (cc : Int32) : entryFrame m #[(.ref a), (.int cc), (.int 0)] 3 = mkF m 0 #[vr a, vi cc, vi 0] [] := by first | (simp [entryFrame, mkF, argsToLocals, Value.category, vi, vj, vr]; done) | rfl
set_option maxRecDepth 65536 in
set_option maxHeartbeats 40000000 in
theorem rm_io2_1_0 (l : Launch) {Z : State} {a0 : Array Value} (hD : Wd Z a0) (a : Addr) (cc : Int32) (t : Addr) (k : ClassId) (x0 : Int32) {h0 : Heap} (O0 : Ext Z.heap h0) (E_a : Exa Z h0 a "java/lang/String") (F_coder_a : Fld Z h0 a "java/lang/String" "coder" "B" (.int 0)) (F_value_a : Fld Z h0 a "java/lang/String" "value" "[B" (.ref t)) (V_t : Arv Z h0 t k .byte (1 : Int32) [(.int (x0.toInt8.toInt32))] (.int 0)) (hx0 : ¬ x0 < 0 ∧ ¬ (65535 : Int32) < x0) (hl0 : ¬ (255 : Int32) < x0) (hn0 : ¬ x0 = cc) (hc : ¬ cc < 0 ∧ ¬ (127 : Int32) < cc) :
    Con l Z (⟨"java/lang/String", "indexOf", "(II)I"⟩ : MethodName) jdk_42_method_80_code 3 (some .int) [] ({ frames := 2, cells := 0, slots := 0, locals := 32 } : Room) #[(.ref a), (.int cc), (.int 0)] h0 (Q_io2_1_0 Z a cc t k x0 h0) := by
  refine Con.walk (plainFor_of_name pn_1) ?_
  intro p e s m below meth c T0 X0 hx hZ hby hml hown hnm hret hlk e0
  obtain ⟨hw, ⟨cz, S_CS, hcz⟩, ⟨sf, S_SF, hsf⟩, S_AD, S_HI, S_LO⟩ := id hD
  have N0 := Fr.nil Z.heap.size
  refine OEnds.cast (ef_io2_1_0 m a cc) ?_
  refine OEnds.st (S' := T0.setTop (mkF m 1 #[vr a, vi cc, vi 0] [(.ref a)])) (fun _ k => ?_) ?_
  · refine XS.aloadN X0.here hx rfl (hb hby d_jdk_42_80_0) rfl rfl ?_
    exact k
  obtain ⟨_, T1, h1, L1, X1, e1, hQ1, st1⟩ := virtC X0 hx hZ (y := (⟨"java/lang/String", "isLatin1", "()Z"⟩ : MethodName)) (z := (⟨"java/lang/String", "isLatin1", "()Z"⟩ : MethodName)) hown (wq hw 52 rfl) (wq hw 53 rfl) (nf_sel (args := #[]) (mvT hZ (wq hw 45 rfl)) rfl) (wq hw 55 rfl) (wq hw 54 rfl) (by decide) (kc := 0) (ks := 0) (Con.sb (W := 0) (rm_isLat0 l hD a O0 F_coder_a) hZ (wq hw 56 rfl) (wq hw 8 rfl) (by decide) (by decide)) e0 E_a (g := (mkF m 1 #[vr a, vi cc, vi 0] [(.ref a)])) rfl (by rw [hml]; rfl) (argsL := []) (rest := []) (lenOf pd_12 rfl) rfl (by show 2 * 0 + _ ≤ _; exact Nat.le_of_eq rfl) (hb hby d_jdk_42_80_1) (by decide) (by decide)
  obtain ⟨rfl, Nq1, Hq1⟩ := hQ1
  refine OEnds.st st1 ?_
  replace N0 := Fr.app N0 Nq1
  replace e1 := e1.trans Hq1
  refine OEnds.st (S' := T1.setTop (mkF m 8 #[vr a, vi cc, vi 0] [(.ref a)])) (fun _ k => ?_) ?_
  · refine XS.ifNo X1.here hx rfl (hb hby d_jdk_42_80_4) rfl ((if0 _ _).trans (feq (by decide)).1) ?_
    refine XS.aloadN X1.here hx rfl (hb hby d_jdk_42_80_7) rfl rfl ?_
    exact k
  obtain ⟨T2, X2, e2, st2⟩ := getF X1 hx hZ hown (host := "") (Or.inl (wq hw 33 rfl)) Via.refl e1 F_value_a (g := (mkF m 8 #[vr a, vi cc, vi 0] [(.ref a)])) rfl rfl (hb hby d_jdk_42_80_8)
  refine OEnds.st st2 ?_
  refine OEnds.st (S' := T2.setTop (mkF m 14 #[vr a, vi cc, vi 0] [(.ref a), (.int 0), (.int cc), (.ref t)])) (fun _ k => ?_) ?_
  · refine XS.iloadN X2.here hx rfl (hb hby d_jdk_42_80_11) rfl ?_
    refine XS.iloadN X2.here hx rfl (hb hby d_jdk_42_80_12) rfl ?_
    refine XS.aloadN X2.here hx rfl (hb hby d_jdk_42_80_13) rfl rfl ?_
    exact k
  obtain ⟨_, T3, h3, L3, X3, e3, hQ3, st3⟩ := virtC X2 hx hZ (y := (⟨"java/lang/String", "length", "()I"⟩ : MethodName)) (z := (⟨"java/lang/String", "length", "()I"⟩ : MethodName)) hown (wq hw 57 rfl) (wq hw 58 rfl) (nf_sel (args := #[]) (mvT hZ (wq hw 45 rfl)) rfl) (wq hw 60 rfl) (wq hw 59 rfl) (by decide) (kc := 0) (ks := 0) (Con.sb (W := 3) (rm_sLen1_0 l hD a t k x0 O0 E_a F_coder_a F_value_a V_t) hZ (wq hw 61 rfl) (wq hw 8 rfl) (by decide) (by decide)) e2 E_a (g := (mkF m 14 #[vr a, vi cc, vi 0] [(.ref a), (.int 0), (.int cc), (.ref t)])) rfl (by rw [hml]; rfl) (argsL := []) (rest := [(.int 0), (.int cc), (.ref t)]) (lenOf pd_13 rfl) rfl (by show 2 * 0 + _ ≤ _; exact Nat.le_of_eq rfl) (hb hby d_jdk_42_80_14) (by decide) (by decide)
  obtain ⟨rfl, Nq3, Hq3⟩ := hQ3
  refine OEnds.st st3 ?_
  replace N0 := Fr.app N0 Nq3
  replace e3 := e3.trans Hq3
  obtain ⟨_, T4, h4, L4, X4, e4, hQ4, st4⟩ := callC X3 hx hZ hown (wq hw 67 rfl) (wq hw 68 rfl) (wq hw 69 rfl) (wq hw 70 rfl) (by decide) (kc := 0) (ks := 0) (Con.sb (W := 0) (rm_lio1 l hD t cc k x0 O0 V_t hx0 hl0 hn0 hc) hZ (wq hw 70 rfl) (wq hw 69 rfl) (by decide) (by decide)) e3 (g := (mkF m 17 #[vr a, vi cc, vi 0] [(.int 1), (.int 0), (.int cc), (.ref t)])) rfl (by rw [hml]; rfl) (argsL := [(.ref t), (.int cc), (.int 0), (.int 1)]) (rest := []) (lenOf pd_14 rfl) rfl (by show 2 * 0 + _ ≤ _; exact Nat.le_of_eq rfl) (hb hby d_jdk_42_80_17) (by decide) (by decide)
  obtain ⟨rfl, Nq4, Hq4⟩ := hQ4
  refine OEnds.st st4 ?_
  replace N0 := Fr.app N0 Nq4
  replace e4 := e4.trans Hq4
  refine OEnds.st (S' := T4.setTop (mkF m 36 #[vr a, vi cc, vi 0] [(.int (-1))])) (fun _ k => ?_) ?_
  · refine XS.goto X4.here hx rfl (pc0 := 20) (pc' := 36) rfl (hb hby d_jdk_42_80_20) (by decide) (by decide) ?_
    exact k
  exact OEnds.ret X4 hx hret hlk rfl (Or.inl ⟨rfl, by simp, _, rfl⟩) (hb hby d_jdk_42_80_36) (by decide) (by decide) (by rw [e4]; exact ⟨rfl, N0, rfl⟩)
-- java/lang/String.indexOf:(I)I
def Q_io1_1_0 (Z : State) (a : Addr) (cc : Int32) (t : Addr) (k : ClassId) (x0 : Int32) (h0 : Heap) (v : Option Value) (h : Heap) (L : List Loc) : Prop := v = some (.int (-1)) ∧ Fr Z.heap.size L ∧ h = h0
theorem ef_io1_1_0 (m : MethodId) (a : Addr) (cc : Int32) : entryFrame m #[(.ref a), (.int cc)] 2 = mkF m 0 #[vr a, vi cc] [] := by first | (simp [entryFrame, mkF, argsToLocals, Value.category, vi, vj, vr]; done) | rfl
set_option maxRecDepth 65536 in
set_option maxHeartbeats 40000000 in
theorem rm_io1_1_0 (l : Launch) {Z : State} {a0 : Array Value} (hD : Wd Z a0) (a : Addr) (cc : Int32) (t : Addr) (k : ClassId) (x0 : Int32) {h0 : Heap} (O0 : Ext Z.heap h0) (E_a : Exa Z h0 a "java/lang/String") (F_coder_a : Fld Z h0 a "java/lang/String" "coder" "B" (.int 0)) (F_value_a : Fld Z h0 a "java/lang/String" "value" "[B" (.ref t)) (V_t : Arv Z h0 t k .byte (1 : Int32) [(.int (x0.toInt8.toInt32))] (.int 0)) (hx0 : ¬ x0 < 0 ∧ ¬ (65535 : Int32) < x0) (hl0 : ¬ (255 : Int32) < x0) (hn0 : ¬ x0 = cc) (hc : ¬ cc < 0 ∧ ¬ (127 : Int32) < cc) :
    Con l Z (⟨"java/lang/String", "indexOf", "(I)I"⟩ : MethodName) jdk_42_method_79_code 2 (some .int) [] ({ frames := 3, cells := 0, slots := 0, locals := 46 } : Room) #[(.ref a), (.int cc)] h0 (Q_io1_1_0 Z a cc t k x0 h0) := by
  refine Con.walk (plainFor_of_name pn_1) ?_
  intro p e s m below meth c T0 X0 hx hZ hby hml hown hnm hret hlk e0
  obtain ⟨hw, ⟨cz, S_CS, hcz⟩, ⟨sf, S_SF, hsf⟩, S_AD, S_HI, S_LO⟩ := id hD
  have N0 := Fr.nil Z.heap.size
  refine OEnds.cast (ef_io1_1_0 m a cc) ?_
  refine OEnds.st (S' := T0.setTop (mkF m 3 #[vr a, vi cc] [(.int 0), (.int cc), (.ref a)])) (fun _ k => ?_) ?_
  · refine XS.aloadN X0.here hx rfl (hb hby d_jdk_42_79_0) rfl rfl ?_
    refine XS.iloadN X0.here hx rfl (hb hby d_jdk_42_79_1) rfl ?_
    refine XS.iconst X0.here hx rfl (hb hby d_jdk_42_79_2) ?_
    exact k
  obtain ⟨_, T1, h1, L1, X1, e1, hQ1, st1⟩ := virtC X0 hx hZ (y := (⟨"java/lang/String", "indexOf", "(II)I"⟩ : MethodName)) (z := (⟨"java/lang/String", "indexOf", "(II)I"⟩ : MethodName)) hown (wq hw 47 rfl) (wq hw 48 rfl) (nf_sel (args := #[]) (mvT hZ (wq hw 45 rfl)) rfl) (wq hw 50 rfl) (wq hw 49 rfl) (by decide) (kc := 0) (ks := 0) (Con.sb (W := 0) (rm_io2_1_0 l hD a cc t k x0 O0 E_a F_coder_a F_value_a V_t hx0 hl0 hn0 hc) hZ (wq hw 51 rfl) (wq hw 8 rfl) (by decide) (by decide)) e0 E_a (g := (mkF m 3 #[vr a, vi cc] [(.int 0), (.int cc), (.ref a)])) rfl (by rw [hml]; rfl) (argsL := [(.int cc), (.int 0)]) (rest := []) (lenOf pd_10 rfl) rfl (by show 2 * 0 + _ ≤ _; exact Nat.le_of_eq rfl) (hb hby d_jdk_42_79_3) (by decide) (by decide)
  obtain ⟨rfl, Nq1, Hq1⟩ := hQ1
  refine OEnds.st st1 ?_
  replace N0 := Fr.app N0 Nq1
  replace e1 := e1.trans Hq1
  exact OEnds.ret X1 hx hret hlk rfl (Or.inl ⟨rfl, by simp, _, rfl⟩) (hb hby d_jdk_42_79_6) (by decide) (by decide) (by rw [e1]; exact ⟨rfl, N0, rfl⟩)
-- com/example/exact_gate/exactgate/Names.requireOneLine:(Ljava/lang/String;Ljava/lang/String;)Ljava/lang/String;
def Q_req1_0 (Z : State) (a : Addr) (nm : Addr) (t : Addr) (k : ClassId) (x0 : Int32) (h0 : Heap) (v : Option Value) (h : Heap) (L : List Loc) : Prop := v = some (.ref a) ∧ Fr Z.heap.size L ∧ h = h0
theorem ef_req1_0 (m : MethodId) (a : Addr) (nm : Addr) : entryFrame m #[(.ref a), (.ref nm)] 2 = mkF m 0 #[vr a, vr nm] [] := by first | (simp [entryFrame, mkF, argsToLocals, Value.category, vi, vj, vr]; done) | rfl
set_option maxRecDepth 65536 in
set_option maxHeartbeats 40000000 in
theorem rm_req1_0 (l : Launch) {Z : State} {a0 : Array Value} (hD : Wd Z a0) (a : Addr) (nm : Addr) (t : Addr) (k : ClassId) (x0 : Int32) {h0 : Heap} (O0 : Ext Z.heap h0) (E_a : Exa Z h0 a "java/lang/String") (F_coder_a : Fld Z h0 a "java/lang/String" "coder" "B" (.int 0)) (F_value_a : Fld Z h0 a "java/lang/String" "value" "[B" (.ref t)) (V_t : Arv Z h0 t k .byte (1 : Int32) [(.int (x0.toInt8.toInt32))] (.int 0)) (hx0 : ¬ x0 < 0 ∧ ¬ (65535 : Int32) < x0) (hl0 : ¬ (255 : Int32) < x0) (hb0 : ¬ x0 = 10 ∧ ¬ x0 = 13) :
    Con l Z (⟨"com/example/exact_gate/exactgate/Names", "requireOneLine", "(Ljava/lang/String;Ljava/lang/String;)Ljava/lang/String;"⟩ : MethodName) prog_2_method_6_code 2 (some (.object "java/lang/String")) [] ({ frames := 4, cells := 0, slots := 0, locals := 59 } : Room) #[(.ref a), (.ref nm)] h0 (Q_req1_0 Z a nm t k x0 h0) := by
  refine Con.walk (plainFor_of_name pn_5) ?_
  intro p e s m below meth c T0 X0 hx hZ hby hml hown hnm hret hlk e0
  obtain ⟨hw, ⟨cz, S_CS, hcz⟩, ⟨sf, S_SF, hsf⟩, S_AD, S_HI, S_LO⟩ := id hD
  have N0 := Fr.nil Z.heap.size
  refine OEnds.cast (ef_req1_0 m a nm) ?_
  refine OEnds.st (S' := T0.setTop (mkF m 3 #[vr a, vr nm] [(.int 10), (.ref a)])) (fun _ k => ?_) ?_
  · refine XS.aloadN X0.here hx rfl (hb hby d_prog_2_6_0) rfl rfl ?_
    refine XS.bipush X0.here hx rfl (hb hby d_prog_2_6_1) ?_
    exact k
  obtain ⟨_, T1, h1, L1, X1, e1, hQ1, st1⟩ := virtC X0 hx hZ (y := (⟨"java/lang/String", "indexOf", "(I)I"⟩ : MethodName)) (z := (⟨"java/lang/String", "indexOf", "(I)I"⟩ : MethodName)) hown (wq hw 42 rfl) (wq hw 43 rfl) (nf_sel (args := #[]) (mvT hZ (wq hw 45 rfl)) rfl) (wq hw 45 rfl) (wq hw 44 rfl) (by decide) (kc := 0) (ks := 0) (Con.sb (W := 0) (rm_io1_1_0 l hD a (10 : Int32) t k x0 O0 E_a F_coder_a F_value_a V_t hx0 hl0 hb0.1 ⟨by decide, by decide⟩) hZ (wq hw 46 rfl) (wq hw 8 rfl) (by decide) (by decide)) e0 E_a (g := (mkF m 3 #[vr a, vr nm] [(.int 10), (.ref a)])) rfl (by rw [hml]; rfl) (argsL := [(.int 10)]) (rest := []) (lenOf pd_1 rfl) rfl (by show 2 * 0 + _ ≤ _; exact Nat.le_of_eq rfl) (hb hby d_prog_2_6_3) (by decide) (by decide)
  obtain ⟨rfl, Nq1, Hq1⟩ := hQ1
  refine OEnds.st st1 ?_
  replace N0 := Fr.app N0 Nq1
  replace e1 := e1.trans Hq1
  refine OEnds.st (S' := T1.setTop (mkF m 12 #[vr a, vr nm] [(.int 13), (.ref a)])) (fun _ k => ?_) ?_
  · refine XS.ifNo X1.here hx rfl (hb hby d_prog_2_6_6) rfl ((if0 _ _).trans (tlt (by decide)).2.1) ?_
    refine XS.aloadN X1.here hx rfl (hb hby d_prog_2_6_9) rfl rfl ?_
    refine XS.bipush X1.here hx rfl (hb hby d_prog_2_6_10) ?_
    exact k
  obtain ⟨_, T2, h2, L2, X2, e2, hQ2, st2⟩ := virtC X1 hx hZ (y := (⟨"java/lang/String", "indexOf", "(I)I"⟩ : MethodName)) (z := (⟨"java/lang/String", "indexOf", "(I)I"⟩ : MethodName)) hown (wq hw 42 rfl) (wq hw 43 rfl) (nf_sel (args := #[]) (mvT hZ (wq hw 45 rfl)) rfl) (wq hw 45 rfl) (wq hw 44 rfl) (by decide) (kc := 0) (ks := 0) (Con.sb (W := 0) (rm_io1_1_0 l hD a (13 : Int32) t k x0 O0 E_a F_coder_a F_value_a V_t hx0 hl0 hb0.2 ⟨by decide, by decide⟩) hZ (wq hw 46 rfl) (wq hw 8 rfl) (by decide) (by decide)) e1 E_a (g := (mkF m 12 #[vr a, vr nm] [(.int 13), (.ref a)])) rfl (by rw [hml]; rfl) (argsL := [(.int 13)]) (rest := []) (lenOf pd_1 rfl) rfl (by show 2 * 0 + _ ≤ _; exact Nat.le_of_eq rfl) (hb hby d_prog_2_6_12) (by decide) (by decide)
  obtain ⟨rfl, Nq2, Hq2⟩ := hQ2
  refine OEnds.st st2 ?_
  replace N0 := Fr.app N0 Nq2
  replace e2 := e2.trans Hq2
  refine OEnds.st (S' := T2.setTop (mkF m 33 #[vr a, vr nm] [(.ref a)])) (fun _ k => ?_) ?_
  · refine XS.ifYes X2.here hx rfl (pc0 := 15) (pc' := 32) rfl (hb hby d_prog_2_6_15) rfl ((if0 _ _).trans (tlt (by decide)).1) (by decide) (by decide) ?_
    refine XS.aloadN X2.here hx rfl (hb hby d_prog_2_6_32) rfl rfl ?_
    exact k
  exact OEnds.ret X2 hx hret hlk rfl (Or.inr (Or.inr (Or.inr (Or.inr ⟨rfl, rfl, rfl⟩)))) (hb hby d_prog_2_6_33) (by decide) (by decide) (by rw [e2]; exact ⟨rfl, N0, rfl⟩)
-- java/lang/StringUTF16.indexOfCharUnsafe:([BIII)I
def Q_unsafe1 (Z : State) (t : Addr) (cc : Int32) (k : ClassId) (x0 : Int32) (h0 : Heap) (v : Option Value) (h : Heap) (L : List Loc) : Prop := v = some (.int (-1)) ∧ Fr Z.heap.size L ∧ h = h0
theorem ef_unsafe1 (m : MethodId) (t : Addr) (cc : Int32) : entryFrame m #[(.ref t), (.int cc), (.int 0), (.int 1)] 5 = mkF m 0 #[vr t, vi cc, vi 0, vi 1, .unset] [] := by first | (simp [entryFrame, mkF, argsToLocals, Value.category, vi, vj, vr]; done) | rfl
theorem d_jdk_52_48_0 : decode jdk_52_method_48_code 0 = .ok (.iload_n 2, 1) := by decide +kernel
theorem d_jdk_52_48_1 : decode jdk_52_method_48_code 1 = .ok (.istore 4, 2) := by decide +kernel
theorem d_jdk_52_48_3 : decode jdk_52_method_48_code 3 = .ok (.iload 4, 2) := by decide +kernel
theorem d_jdk_52_48_5 : decode jdk_52_method_48_code 5 = .ok (.iload_n 3, 1) := by decide +kernel
theorem d_jdk_52_48_6 : decode jdk_52_method_48_code 6 = .ok (.if_icmp .ge 22, 3) := by decide +kernel
theorem d_jdk_52_48_9 : decode jdk_52_method_48_code 9 = .ok (.aload_n 0, 1) := by decide +kernel
theorem d_jdk_52_48_10 : decode jdk_52_method_48_code 10 = .ok (.iload 4, 2) := by decide +kernel
theorem d_jdk_52_48_12 : decode jdk_52_method_48_code 12 = .ok (.invokestatic 71, 3) := by decide +kernel
theorem d_jdk_52_48_15 : decode jdk_52_method_48_code 15 = .ok (.iload_n 1, 1) := by decide +kernel
theorem d_jdk_52_48_16 : decode jdk_52_method_48_code 16 = .ok (.if_icmp .ne 6, 3) := by decide +kernel
theorem d_jdk_52_48_22 : decode jdk_52_method_48_code 22 = .ok (.iinc 4 1, 3) := by decide +kernel
theorem d_jdk_52_48_25 : decode jdk_52_method_48_code 25 = .ok (.goto (-22), 3) := by decide +kernel
theorem d_jdk_52_48_28 : decode jdk_52_method_48_code 28 = .ok (.iconst (-1), 1) := by decide +kernel
theorem d_jdk_52_48_29 : decode jdk_52_method_48_code 29 = .ok (.ireturn, 1) := by decide +kernel
set_option maxRecDepth 65536 in
set_option maxHeartbeats 40000000 in
theorem rm_unsafe1 (l : Launch) {Z : State} {a0 : Array Value} (hD : Wd Z a0) (t : Addr) (cc : Int32) (k : ClassId) (x0 : Int32) {h0 : Heap} (O0 : Ext Z.heap h0) (V_t : Arv Z h0 t k .byte (2 : Int32) [(.int (x0.toInt8.toInt32)), (.int ((x0 >>> ((8 : Int32) &&& 31)).toInt8.toInt32))] (.int 0)) (hx0 : ¬ x0 < 0 ∧ ¬ (65535 : Int32) < x0) (hn0 : ¬ x0 = cc) (hc : ¬ cc < 0 ∧ ¬ (127 : Int32) < cc) :
    Con l Z (⟨"java/lang/StringUTF16", "indexOfCharUnsafe", "([BIII)I"⟩ : MethodName) jdk_52_method_48_code 5 (some .int) [] ({ frames := 1, cells := 0, slots := 0, locals := 13 } : Room) #[(.ref t), (.int cc), (.int 0), (.int 1)] h0 (Q_unsafe1 Z t cc k x0 h0) := by
  refine Con.walk (plainFor_of_name pn_4) ?_
  intro p e s m below meth c T0 X0 hx hZ hby hml hown hnm hret hlk e0
  obtain ⟨hw, ⟨cz, S_CS, hcz⟩, ⟨sf, S_SF, hsf⟩, S_AD, S_HI, S_LO⟩ := id hD
  have N0 := Fr.nil Z.heap.size
  refine OEnds.cast (ef_unsafe1 m t cc) ?_
  refine OEnds.st (S' := T0.setTop (mkF m 12 #[vr t, vi cc, vi 0, vi 1, vi 0] [(.int 0), (.ref t)])) (fun _ k => ?_) ?_
  · refine XS.iloadN X0.here hx rfl (hb hby d_jdk_52_48_0) rfl ?_
    refine XS.istore X0.here hx rfl (hb hby d_jdk_52_48_1) rfl (l' := #[vr t, vi cc, vi 0, vi 1, vi 0]) rfl ?_
    refine XS.iload X0.here hx rfl (hb hby d_jdk_52_48_3) rfl ?_
    refine XS.iloadN X0.here hx rfl (hb hby d_jdk_52_48_5) rfl ?_
    show Steps p.tables e below (T0.setTop (mkF m 6 #[vr t, vi cc, vi 0, vi 1, vi 0] [(.int 1), (.int 0)])) _
    refine XS.icmpNo X0.here hx rfl (hb hby d_jdk_52_48_6) rfl (tlt (by decide)).2.1 ?_
    refine XS.aloadN X0.here hx rfl (hb hby d_jdk_52_48_9) rfl rfl ?_
    refine XS.iload X0.here hx rfl (hb hby d_jdk_52_48_10) rfl ?_
    exact k
  obtain ⟨_, T1, h1, L1, X1, e1, hQ1, st1⟩ := callC X0 hx hZ hown (wq hw 101 rfl) (wq hw 102 rfl) (wq hw 22 rfl) (wq hw 103 rfl) (by decide) (kc := 0) (ks := 0) (Con.sb (W := 0) (rm_getC1_0 l hD t k x0 O0 V_t hx0) hZ (wq hw 103 rfl) (wq hw 22 rfl) (by decide) (by decide)) e0 (g := (mkF m 12 #[vr t, vi cc, vi 0, vi 1, vi 0] [(.int 0), (.ref t)])) rfl (by rw [hml]; rfl) (argsL := [(.ref t), (.int 0)]) (rest := []) (lenOf pd_6 rfl) rfl (by show 2 * 0 + _ ≤ _; exact Nat.le_of_eq rfl) (hb hby d_jdk_52_48_12) (by decide) (by decide)
  obtain ⟨rfl, Nq1, Hq1⟩ := hQ1
  refine OEnds.st st1 ?_
  replace N0 := Fr.app N0 Nq1
  replace e1 := e1.trans Hq1
  refine OEnds.st (S' := T1.setTop (mkF m 22 #[vr t, vi cc, vi 0, vi 1, vi 0] [])) (fun _ k => ?_) ?_
  · refine XS.iloadN X1.here hx rfl (hb hby d_jdk_52_48_15) rfl ?_
    refine XS.icmpYes X1.here hx rfl (pc0 := 16) (pc' := 22) rfl (hb hby d_jdk_52_48_16) rfl (feq hn0).2 (by decide) (by decide) ?_
    exact k
  refine OEnds.st (S' := T1.setTop (mkF m 3 #[vr t, vi cc, vi 0, vi 1, vi 1] [])) (fun _ k => ?_) ?_
  · refine XS.iinc X1.here hx rfl (hb hby d_jdk_52_48_22) rfl (l' := #[vr t, vi cc, vi 0, vi 1, vi 1]) rfl ?_
    refine XS.goto X1.here hx rfl (pc0 := 25) (pc' := 3) rfl (hb hby d_jdk_52_48_25) (by decide) (by decide) ?_
    exact k
  refine OEnds.st (S' := T1.setTop (mkF m 29 #[vr t, vi cc, vi 0, vi 1, vi 1] [(.int (-1))])) (fun _ k => ?_) ?_
  · refine XS.iload X1.here hx rfl (hb hby d_jdk_52_48_3) rfl ?_
    refine XS.iloadN X1.here hx rfl (hb hby d_jdk_52_48_5) rfl ?_
    refine XS.icmpYes X1.here hx rfl (pc0 := 6) (pc' := 28) rfl (hb hby d_jdk_52_48_6) rfl (flt (by decide)).2.1 (by decide) (by decide) ?_
    refine XS.iconst X1.here hx rfl (hb hby d_jdk_52_48_28) ?_
    exact k
  exact OEnds.ret X1 hx hret hlk rfl (Or.inl ⟨rfl, by simp, _, rfl⟩) (hb hby d_jdk_52_48_29) (by decide) (by decide) (by rw [e1]; exact ⟨rfl, N0, rfl⟩)
-- java/lang/StringUTF16.length:([B)I
def Q_ulen1 (Z : State) (t : Addr) (k : ClassId) (x0 : Int32) (h0 : Heap) (v : Option Value) (h : Heap) (L : List Loc) : Prop := v = some (.int 1) ∧ Fr Z.heap.size L ∧ h = h0
theorem ef_ulen1 (m : MethodId) (t : Addr) : entryFrame m #[(.ref t)] 1 = mkF m 0 #[vr t] [] := by first | (simp [entryFrame, mkF, argsToLocals, Value.category, vi, vj, vr]; done) | rfl
theorem d_jdk_52_6_0 : decode jdk_52_method_6_code 0 = .ok (.aload_n 0, 1) := by decide +kernel
theorem d_jdk_52_6_1 : decode jdk_52_method_6_code 1 = .ok (.arraylength, 1) := by decide +kernel
theorem d_jdk_52_6_2 : decode jdk_52_method_6_code 2 = .ok (.iconst 1, 1) := by decide +kernel
theorem d_jdk_52_6_3 : decode jdk_52_method_6_code 3 = .ok (.ishr, 1) := by decide +kernel
theorem d_jdk_52_6_4 : decode jdk_52_method_6_code 4 = .ok (.ireturn, 1) := by decide +kernel
set_option maxRecDepth 65536 in
set_option maxHeartbeats 40000000 in
theorem rm_ulen1 (l : Launch) {Z : State} {a0 : Array Value} (hD : Wd Z a0) (t : Addr) (k : ClassId) (x0 : Int32) {h0 : Heap} (O0 : Ext Z.heap h0) (V_t : Arv Z h0 t k .byte (2 : Int32) [(.int (x0.toInt8.toInt32)), (.int ((x0 >>> ((8 : Int32) &&& 31)).toInt8.toInt32))] (.int 0)) :
    Con l Z (⟨"java/lang/StringUTF16", "length", "([B)I"⟩ : MethodName) jdk_52_method_6_code 1 (some .int) [] ({ frames := 0, cells := 0, slots := 0, locals := 0 } : Room) #[(.ref t)] h0 (Q_ulen1 Z t k x0 h0) := by
  refine Con.walk (plainFor_of_name pn_4) ?_
  intro p e s m below meth c T0 X0 hx hZ hby hml hown hnm hret hlk e0
  obtain ⟨hw, ⟨cz, S_CS, hcz⟩, ⟨sf, S_SF, hsf⟩, S_AD, S_HI, S_LO⟩ := id hD
  have N0 := Fr.nil Z.heap.size
  refine OEnds.cast (ef_ulen1 m t) ?_
  refine OEnds.st (S' := T0.setTop (mkF m 1 #[vr t] [(.ref t)])) (fun _ k => ?_) ?_
  · refine XS.aloadN X0.here hx rfl (hb hby d_jdk_52_6_0) rfl rfl ?_
    exact k
  obtain ⟨cl_t_1, Ar_t_1, q_t_1, S_t_1, N_t_1, H_t_1, G_t_1⟩ := id V_t
  refine OEnds.st (S' := T0.setTop (mkF m 2 #[vr t] [(.int 2)])) (fun tg kq9 => X0.arraylength hx (by rw [e0]; exact Ar_t_1.1) (State.isArrayOf_alike hZ.alike Ar_t_1.2.1) (g := (mkF m 1 #[vr t] [(.ref t)])) rfl rfl (hb hby d_jdk_52_6_1) tg (by rw [len_of S_t_1 N_t_1]; exact kq9)) ?_
  refine OEnds.st (S' := T0.setTop (mkF m 4 #[vr t] [(.int 1)])) (fun _ k => ?_) ?_
  · refine XS.iconst X0.here hx rfl (hb hby d_jdk_52_6_2) ?_
    refine XS.ishr X0.here hx rfl (hb hby d_jdk_52_6_3) rfl ?_
    exact k
  exact OEnds.ret X0 hx hret hlk rfl (Or.inl ⟨rfl, by simp, _, rfl⟩) (hb hby d_jdk_52_6_4) (by decide) (by decide) (by rw [e0]; exact ⟨rfl, N0, rfl⟩)
-- java/lang/StringUTF16.checkBoundsBeginEnd:(II[B)V
def Q_ucb1 (Z : State) (t : Addr) (k : ClassId) (x0 : Int32) (h0 : Heap) (v : Option Value) (h : Heap) (L : List Loc) : Prop := v = none ∧ Fr Z.heap.size L ∧ h = h0
theorem ef_ucb1 (m : MethodId) (t : Addr) : entryFrame m #[(.int 0), (.int 1), (.ref t)] 3 = mkF m 0 #[vi 0, vi 1, vr t] [] := by first | (simp [entryFrame, mkF, argsToLocals, Value.category, vi, vj, vr]; done) | rfl
theorem d_jdk_52_93_0 : decode jdk_52_method_93_code 0 = .ok (.iload_n 0, 1) := by decide +kernel
theorem d_jdk_52_93_1 : decode jdk_52_method_93_code 1 = .ok (.iload_n 1, 1) := by decide +kernel
theorem d_jdk_52_93_2 : decode jdk_52_method_93_code 2 = .ok (.aload_n 2, 1) := by decide +kernel
theorem d_jdk_52_93_3 : decode jdk_52_method_93_code 3 = .ok (.invokestatic 48, 3) := by decide +kernel
theorem pd_15 : parseMethodDescriptor "([B)I" = some ⟨[(.array .byte)], some .int⟩ := by decide +kernel
theorem d_jdk_52_93_6 : decode jdk_52_method_93_code 6 = .ok (.invokestatic 241, 3) := by decide +kernel
theorem pd_16 : parseMethodDescriptor "(III)V" = some ⟨[.int, .int, .int], none⟩ := by decide +kernel
theorem d_jdk_52_93_9 : decode jdk_52_method_93_code 9 = .ok (.return_, 1) := by decide +kernel
set_option maxRecDepth 65536 in
set_option maxHeartbeats 40000000 in
theorem rm_ucb1 (l : Launch) {Z : State} {a0 : Array Value} (hD : Wd Z a0) (t : Addr) (k : ClassId) (x0 : Int32) {h0 : Heap} (O0 : Ext Z.heap h0) (V_t : Arv Z h0 t k .byte (2 : Int32) [(.int (x0.toInt8.toInt32)), (.int ((x0 >>> ((8 : Int32) &&& 31)).toInt8.toInt32))] (.int 0)) :
    Con l Z (⟨"java/lang/StringUTF16", "checkBoundsBeginEnd", "(II[B)V"⟩ : MethodName) jdk_52_method_93_code 3 none [] ({ frames := 2, cells := 0, slots := 0, locals := 29 } : Room) #[(.int 0), (.int 1), (.ref t)] h0 (Q_ucb1 Z t k x0 h0) := by
  refine Con.walk (plainFor_of_name pn_4) ?_
  intro p e s m below meth c T0 X0 hx hZ hby hml hown hnm hret hlk e0
  obtain ⟨hw, ⟨cz, S_CS, hcz⟩, ⟨sf, S_SF, hsf⟩, S_AD, S_HI, S_LO⟩ := id hD
  have N0 := Fr.nil Z.heap.size
  refine OEnds.cast (ef_ucb1 m t) ?_
  refine OEnds.st (S' := T0.setTop (mkF m 3 #[vi 0, vi 1, vr t] [(.ref t), (.int 1), (.int 0)])) (fun _ k => ?_) ?_
  · refine XS.iloadN X0.here hx rfl (hb hby d_jdk_52_93_0) rfl ?_
    refine XS.iloadN X0.here hx rfl (hb hby d_jdk_52_93_1) rfl ?_
    refine XS.aloadN X0.here hx rfl (hb hby d_jdk_52_93_2) rfl rfl ?_
    exact k
  obtain ⟨_, T1, h1, L1, X1, e1, hQ1, st1⟩ := callC X0 hx hZ hown (wq hw 116 rfl) (wq hw 117 rfl) (wq hw 22 rfl) (wq hw 118 rfl) (by decide) (kc := 0) (ks := 0) (Con.sb (W := 2) (rm_ulen1 l hD t k x0 O0 V_t) hZ (wq hw 118 rfl) (wq hw 22 rfl) (by decide) (by decide)) e0 (g := (mkF m 3 #[vi 0, vi 1, vr t] [(.ref t), (.int 1), (.int 0)])) rfl (by rw [hml]; rfl) (argsL := [(.ref t)]) (rest := [(.int 1), (.int 0)]) (lenOf pd_15 rfl) rfl (by show 2 * 0 + _ ≤ _; exact Nat.le_of_eq rfl) (hb hby d_jdk_52_93_3) (by decide) (by decide)
  obtain ⟨rfl, Nq1, Hq1⟩ := hQ1
  refine OEnds.st st1 ?_
  replace N0 := Fr.app N0 Nq1
  replace e1 := e1.trans Hq1
  obtain ⟨_, T2, h2, L2, X2, e2, hQ2, st2⟩ := callC X1 hx hZ hown (wq hw 119 rfl) (wq hw 120 rfl) (wq hw 8 rfl) (wq hw 121 rfl) (by decide) (kc := 0) (ks := 0) (Con.sb (W := 0) (rm_chkBE1 l hD  O0) hZ (wq hw 121 rfl) (wq hw 8 rfl) (by decide) (by decide)) e1 (g := (mkF m 6 #[vi 0, vi 1, vr t] [(.int 1), (.int 1), (.int 0)])) rfl (by rw [hml]; rfl) (argsL := [(.int 0), (.int 1), (.int 1)]) (rest := []) (lenOf pd_16 rfl) rfl (by show 2 * 0 + _ ≤ _; exact Nat.le_of_eq rfl) (hb hby d_jdk_52_93_6) (by decide) (by decide)
  obtain ⟨rfl, Nq2, Hq2⟩ := hQ2
  refine OEnds.st st2 ?_
  replace N0 := Fr.app N0 Nq2
  replace e2 := e2.trans Hq2
  exact OEnds.retV X2 hx hret hlk (hb hby d_jdk_52_93_9) (by decide) (by decide) (by rw [e2]; exact ⟨rfl, N0, rfl⟩)
-- java/lang/StringUTF16.indexOfChar:([BIII)I
def Q_uic1 (Z : State) (t : Addr) (cc : Int32) (k : ClassId) (x0 : Int32) (h0 : Heap) (v : Option Value) (h : Heap) (L : List Loc) : Prop := v = some (.int (-1)) ∧ Fr Z.heap.size L ∧ h = h0
theorem ef_uic1 (m : MethodId) (t : Addr) (cc : Int32) : entryFrame m #[(.ref t), (.int cc), (.int 0), (.int 1)] 4 = mkF m 0 #[vr t, vi cc, vi 0, vi 1] [] := by first | (simp [entryFrame, mkF, argsToLocals, Value.category, vi, vj, vr]; done) | rfl
theorem d_jdk_52_47_0 : decode jdk_52_method_47_code 0 = .ok (.iload_n 2, 1) := by decide +kernel
theorem d_jdk_52_47_1 : decode jdk_52_method_47_code 1 = .ok (.iload_n 3, 1) := by decide +kernel
theorem d_jdk_52_47_2 : decode jdk_52_method_47_code 2 = .ok (.aload_n 0, 1) := by decide +kernel
theorem d_jdk_52_47_3 : decode jdk_52_method_47_code 3 = .ok (.invokestatic 96, 3) := by decide +kernel
theorem pd_17 : parseMethodDescriptor "(II[B)V" = some ⟨[.int, .int, (.array .byte)], none⟩ := by decide +kernel
theorem d_jdk_52_47_6 : decode jdk_52_method_47_code 6 = .ok (.aload_n 0, 1) := by decide +kernel
theorem d_jdk_52_47_7 : decode jdk_52_method_47_code 7 = .ok (.iload_n 1, 1) := by decide +kernel
theorem d_jdk_52_47_8 : decode jdk_52_method_47_code 8 = .ok (.iload_n 2, 1) := by decide +kernel
theorem d_jdk_52_47_9 : decode jdk_52_method_47_code 9 = .ok (.iload_n 3, 1) := by decide +kernel
theorem d_jdk_52_47_10 : decode jdk_52_method_47_code 10 = .ok (.invokestatic 244, 3) := by decide +kernel
theorem d_jdk_52_47_13 : decode jdk_52_method_47_code 13 = .ok (.ireturn, 1) := by decide +kernel
set_option maxRecDepth 65536 in
set_option maxHeartbeats 40000000 in
theorem rm_uic1 (l : Launch) {Z : State} {a0 : Array Value} (hD : Wd Z a0) (t : Addr) (cc : Int32) (k : ClassId) (x0 : Int32) {h0 : Heap} (O0 : Ext Z.heap h0) (V_t : Arv Z h0 t k .byte (2 : Int32) [(.int (x0.toInt8.toInt32)), (.int ((x0 >>> ((8 : Int32) &&& 31)).toInt8.toInt32))] (.int 0)) (hx0 : ¬ x0 < 0 ∧ ¬ (65535 : Int32) < x0) (hn0 : ¬ x0 = cc) (hc : ¬ cc < 0 ∧ ¬ (127 : Int32) < cc) :
    Con l Z (⟨"java/lang/StringUTF16", "indexOfChar", "([BIII)I"⟩ : MethodName) jdk_52_method_47_code 4 (some .int) [] ({ frames := 3, cells := 0, slots := 0, locals := 43 } : Room) #[(.ref t), (.int cc), (.int 0), (.int 1)] h0 (Q_uic1 Z t cc k x0 h0) := by
  refine Con.walk (plainFor_of_name pn_4) ?_
  intro p e s m below meth c T0 X0 hx hZ hby hml hown hnm hret hlk e0
  obtain ⟨hw, ⟨cz, S_CS, hcz⟩, ⟨sf, S_SF, hsf⟩, S_AD, S_HI, S_LO⟩ := id hD
  have N0 := Fr.nil Z.heap.size
  refine OEnds.cast (ef_uic1 m t cc) ?_
  refine OEnds.st (S' := T0.setTop (mkF m 3 #[vr t, vi cc, vi 0, vi 1] [(.ref t), (.int 1), (.int 0)])) (fun _ k => ?_) ?_
  · refine XS.iloadN X0.here hx rfl (hb hby d_jdk_52_47_0) rfl ?_
    refine XS.iloadN X0.here hx rfl (hb hby d_jdk_52_47_1) rfl ?_
    refine XS.aloadN X0.here hx rfl (hb hby d_jdk_52_47_2) rfl rfl ?_
    exact k
  obtain ⟨_, T1, h1, L1, X1, e1, hQ1, st1⟩ := callC X0 hx hZ hown (wq hw 113 rfl) (wq hw 114 rfl) (wq hw 22 rfl) (wq hw 115 rfl) (by decide) (kc := 0) (ks := 0) (Con.sb (W := 0) (rm_ucb1 l hD t k x0 O0 V_t) hZ (wq hw 115 rfl) (wq hw 22 rfl) (by decide) (by decide)) e0 (g := (mkF m 3 #[vr t, vi cc, vi 0, vi 1] [(.ref t), (.int 1), (.int 0)])) rfl (by rw [hml]; rfl) (argsL := [(.int 0), (.int 1), (.ref t)]) (rest := []) (lenOf pd_17 rfl) rfl (by show 2 * 0 + _ ≤ _; exact Nat.le_of_eq rfl) (hb hby d_jdk_52_47_3) (by decide) (by decide)
  obtain ⟨rfl, Nq1, Hq1⟩ := hQ1
  refine OEnds.st st1 ?_
  replace N0 := Fr.app N0 Nq1
  replace e1 := e1.trans Hq1
  refine OEnds.st (S' := T1.setTop (mkF m 10 #[vr t, vi cc, vi 0, vi 1] [(.int 1), (.int 0), (.int cc), (.ref t)])) (fun _ k => ?_) ?_
  · refine XS.aloadN X1.here hx rfl (hb hby d_jdk_52_47_6) rfl rfl ?_
    refine XS.iloadN X1.here hx rfl (hb hby d_jdk_52_47_7) rfl ?_
    refine XS.iloadN X1.here hx rfl (hb hby d_jdk_52_47_8) rfl ?_
    refine XS.iloadN X1.here hx rfl (hb hby d_jdk_52_47_9) rfl ?_
    exact k
  obtain ⟨_, T2, h2, L2, X2, e2, hQ2, st2⟩ := callC X1 hx hZ hown (wq hw 127 rfl) (wq hw 128 rfl) (wq hw 22 rfl) (wq hw 129 rfl) (by decide) (kc := 0) (ks := 0) (Con.sb (W := 0) (rm_unsafe1 l hD t cc k x0 O0 V_t hx0 hn0 hc) hZ (wq hw 129 rfl) (wq hw 22 rfl) (by decide) (by decide)) e1 (g := (mkF m 10 #[vr t, vi cc, vi 0, vi 1] [(.int 1), (.int 0), (.int cc), (.ref t)])) rfl (by rw [hml]; rfl) (argsL := [(.ref t), (.int cc), (.int 0), (.int 1)]) (rest := []) (lenOf pd_14 rfl) rfl (by show 2 * 0 + _ ≤ _; exact Nat.le_of_eq rfl) (hb hby d_jdk_52_47_10) (by decide) (by decide)
  obtain ⟨rfl, Nq2, Hq2⟩ := hQ2
  refine OEnds.st st2 ?_
  replace N0 := Fr.app N0 Nq2
  replace e2 := e2.trans Hq2
  exact OEnds.ret X2 hx hret hlk rfl (Or.inl ⟨rfl, by simp, _, rfl⟩) (hb hby d_jdk_52_47_13) (by decide) (by decide) (by rw [e2]; exact ⟨rfl, N0, rfl⟩)
-- java/lang/StringUTF16.indexOf:([BIII)I
def Q_uio1 (Z : State) (t : Addr) (cc : Int32) (k : ClassId) (x0 : Int32) (h0 : Heap) (v : Option Value) (h : Heap) (L : List Loc) : Prop := v = some (.int (-1)) ∧ Fr Z.heap.size L ∧ h = h0
theorem ef_uio1 (m : MethodId) (t : Addr) (cc : Int32) : entryFrame m #[(.ref t), (.int cc), (.int 0), (.int 1)] 4 = mkF m 0 #[vr t, vi cc, vi 0, vi 1] [] := by first | (simp [entryFrame, mkF, argsToLocals, Value.category, vi, vj, vr]; done) | rfl
theorem d_jdk_52_40_0 : decode jdk_52_method_40_code 0 = .ok (.iload_n 2, 1) := by decide +kernel
theorem d_jdk_52_40_1 : decode jdk_52_method_40_code 1 = .ok (.iconst 0, 1) := by decide +kernel
theorem d_jdk_52_40_2 : decode jdk_52_method_40_code 2 = .ok (.invokestatic 224, 3) := by decide +kernel
theorem d_jdk_52_40_5 : decode jdk_52_method_40_code 5 = .ok (.istore_n 2, 1) := by decide +kernel
theorem d_jdk_52_40_6 : decode jdk_52_method_40_code 6 = .ok (.iload_n 3, 1) := by decide +kernel
theorem d_jdk_52_40_7 : decode jdk_52_method_40_code 7 = .ok (.aload_n 0, 1) := by decide +kernel
theorem d_jdk_52_40_8 : decode jdk_52_method_40_code 8 = .ok (.arraylength, 1) := by decide +kernel
theorem d_jdk_52_40_9 : decode jdk_52_method_40_code 9 = .ok (.iconst 1, 1) := by decide +kernel
theorem d_jdk_52_40_10 : decode jdk_52_method_40_code 10 = .ok (.ishr, 1) := by decide +kernel
theorem d_jdk_52_40_11 : decode jdk_52_method_40_code 11 = .ok (.invokestatic 183, 3) := by decide +kernel
theorem d_jdk_52_40_14 : decode jdk_52_method_40_code 14 = .ok (.istore_n 3, 1) := by decide +kernel
theorem d_jdk_52_40_15 : decode jdk_52_method_40_code 15 = .ok (.iload_n 2, 1) := by decide +kernel
theorem d_jdk_52_40_16 : decode jdk_52_method_40_code 16 = .ok (.iload_n 3, 1) := by decide +kernel
theorem d_jdk_52_40_17 : decode jdk_52_method_40_code 17 = .ok (.if_icmp .lt 5, 3) := by decide +kernel
theorem d_jdk_52_40_22 : decode jdk_52_method_40_code 22 = .ok (.iload_n 1, 1) := by decide +kernel
theorem d_jdk_52_40_23 : decode jdk_52_method_40_code 23 = .ok (.ldc 227, 2) := by decide +kernel
theorem d_jdk_52_40_25 : decode jdk_52_method_40_code 25 = .ok (.if_icmp .ge 11, 3) := by decide +kernel
theorem d_jdk_52_40_28 : decode jdk_52_method_40_code 28 = .ok (.aload_n 0, 1) := by decide +kernel
theorem d_jdk_52_40_29 : decode jdk_52_method_40_code 29 = .ok (.iload_n 1, 1) := by decide +kernel
theorem d_jdk_52_40_30 : decode jdk_52_method_40_code 30 = .ok (.iload_n 2, 1) := by decide +kernel
theorem d_jdk_52_40_31 : decode jdk_52_method_40_code 31 = .ok (.iload_n 3, 1) := by decide +kernel
theorem d_jdk_52_40_32 : decode jdk_52_method_40_code 32 = .ok (.invokestatic 228, 3) := by decide +kernel
theorem d_jdk_52_40_35 : decode jdk_52_method_40_code 35 = .ok (.ireturn, 1) := by decide +kernel
set_option maxRecDepth 65536 in
set_option maxHeartbeats 40000000 in
theorem rm_uio1 (l : Launch) {Z : State} {a0 : Array Value} (hD : Wd Z a0) (t : Addr) (cc : Int32) (k : ClassId) (x0 : Int32) {h0 : Heap} (O0 : Ext Z.heap h0) (V_t : Arv Z h0 t k .byte (2 : Int32) [(.int (x0.toInt8.toInt32)), (.int ((x0 >>> ((8 : Int32) &&& 31)).toInt8.toInt32))] (.int 0)) (hx0 : ¬ x0 < 0 ∧ ¬ (65535 : Int32) < x0) (hn0 : ¬ x0 = cc) (hc : ¬ cc < 0 ∧ ¬ (127 : Int32) < cc) :
    Con l Z (⟨"java/lang/StringUTF16", "indexOf", "([BIII)I"⟩ : MethodName) jdk_52_method_40_code 4 (some .int) [] ({ frames := 4, cells := 0, slots := 0, locals := 58 } : Room) #[(.ref t), (.int cc), (.int 0), (.int 1)] h0 (Q_uio1 Z t cc k x0 h0) := by
  refine Con.walk (plainFor_of_name pn_4) ?_
  intro p e s m below meth c T0 X0 hx hZ hby hml hown hnm hret hlk e0
  obtain ⟨hw, ⟨cz, S_CS, hcz⟩, ⟨sf, S_SF, hsf⟩, S_AD, S_HI, S_LO⟩ := id hD
  have N0 := Fr.nil Z.heap.size
  refine OEnds.cast (ef_uio1 m t cc) ?_
  refine OEnds.st (S' := T0.setTop (mkF m 2 #[vr t, vi cc, vi 0, vi 1] [(.int 0), (.int 0)])) (fun _ k => ?_) ?_
  · refine XS.iloadN X0.here hx rfl (hb hby d_jdk_52_40_0) rfl ?_
    refine XS.iconst X0.here hx rfl (hb hby d_jdk_52_40_1) ?_
    exact k
  obtain ⟨_, T1, h1, L1, X1, e1, hQ1, st1⟩ := callC X0 hx hZ hown (wq hw 107 rfl) (wq hw 75 rfl) (wq hw 76 rfl) (wq hw 77 rfl) (by decide) (kc := 0) (ks := 0) (Con.sb (W := 0) (rm_max00 l hD  O0) hZ (wq hw 77 rfl) (wq hw 76 rfl) (by decide) (by decide)) e0 (g := (mkF m 2 #[vr t, vi cc, vi 0, vi 1] [(.int 0), (.int 0)])) rfl (by rw [hml]; rfl) (argsL := [(.int 0), (.int 0)]) (rest := []) (lenOf pd_10 rfl) rfl (by show 2 * 0 + _ ≤ _; exact Nat.le_of_eq rfl) (hb hby d_jdk_52_40_2) (by decide) (by decide)
  obtain ⟨rfl, Nq1, Hq1⟩ := hQ1
  refine OEnds.st st1 ?_
  replace N0 := Fr.app N0 Nq1
  replace e1 := e1.trans Hq1
  refine OEnds.st (S' := T1.setTop (mkF m 8 #[vr t, vi cc, vi 0, vi 1] [(.ref t), (.int 1)])) (fun _ k => ?_) ?_
  · refine XS.istoreN X1.here hx rfl (hb hby d_jdk_52_40_5) rfl (l' := #[vr t, vi cc, vi 0, vi 1]) rfl ?_
    refine XS.iloadN X1.here hx rfl (hb hby d_jdk_52_40_6) rfl ?_
    refine XS.aloadN X1.here hx rfl (hb hby d_jdk_52_40_7) rfl rfl ?_
    exact k
  obtain ⟨cl_t_2, Ar_t_2, q_t_2, S_t_2, N_t_2, H_t_2, G_t_2⟩ := id V_t
  refine OEnds.st (S' := T1.setTop (mkF m 9 #[vr t, vi cc, vi 0, vi 1] [(.int 2), (.int 1)])) (fun tg kq9 => X1.arraylength hx (by rw [e1]; exact Ar_t_2.1) (State.isArrayOf_alike hZ.alike Ar_t_2.2.1) (g := (mkF m 8 #[vr t, vi cc, vi 0, vi 1] [(.ref t), (.int 1)])) rfl rfl (hb hby d_jdk_52_40_8) tg (by rw [len_of S_t_2 N_t_2]; exact kq9)) ?_
  refine OEnds.st (S' := T1.setTop (mkF m 11 #[vr t, vi cc, vi 0, vi 1] [(.int 1), (.int 1)])) (fun _ k => ?_) ?_
  · refine XS.iconst X1.here hx rfl (hb hby d_jdk_52_40_9) ?_
    refine XS.ishr X1.here hx rfl (hb hby d_jdk_52_40_10) rfl ?_
    exact k
  obtain ⟨_, T3, h3, L3, X3, e3, hQ3, st3⟩ := callC X1 hx hZ hown (wq hw 108 rfl) (wq hw 79 rfl) (wq hw 76 rfl) (wq hw 80 rfl) (by decide) (kc := 0) (ks := 0) (Con.sb (W := 0) (rm_minSame l hD (1 : Int32) O0) hZ (wq hw 80 rfl) (wq hw 76 rfl) (by decide) (by decide)) e1 (g := (mkF m 11 #[vr t, vi cc, vi 0, vi 1] [(.int 1), (.int 1)])) rfl (by rw [hml]; rfl) (argsL := [(.int 1), (.int 1)]) (rest := []) (lenOf pd_10 rfl) rfl (by show 2 * 0 + _ ≤ _; exact Nat.le_of_eq rfl) (hb hby d_jdk_52_40_11) (by decide) (by decide)
  obtain ⟨rfl, Nq3, Hq3⟩ := hQ3
  refine OEnds.st st3 ?_
  replace N0 := Fr.app N0 Nq3
  replace e3 := e3.trans Hq3
  refine OEnds.st (S' := T3.setTop (mkF m 32 #[vr t, vi cc, vi 0, vi 1] [(.int 1), (.int 0), (.int cc), (.ref t)])) (fun _ k => ?_) ?_
  · refine XS.istoreN X3.here hx rfl (hb hby d_jdk_52_40_14) rfl (l' := #[vr t, vi cc, vi 0, vi 1]) rfl ?_
    refine XS.iloadN X3.here hx rfl (hb hby d_jdk_52_40_15) rfl ?_
    refine XS.iloadN X3.here hx rfl (hb hby d_jdk_52_40_16) rfl ?_
    refine XS.icmpYes X3.here hx rfl (pc0 := 17) (pc' := 22) rfl (hb hby d_jdk_52_40_17) rfl (tlt (by decide)).1 (by decide) (by decide) ?_
    show Steps p.tables e below (T3.setTop (mkF m 22 #[vr t, vi cc, vi 0, vi 1] [])) _
    refine XS.iloadN X3.here hx rfl (hb hby d_jdk_52_40_22) rfl ?_
    refine X3.ldcInt hx hown (mvT hZ (wq hw 109 rfl)) (g := (mkF m 23 #[vr t, vi cc, vi 0, vi 1] [(.int cc)])) rfl (hb hby d_jdk_52_40_23) _ ?_
    refine XS.icmpNo X3.here hx rfl (hb hby d_jdk_52_40_25) rfl (tlt (lt64k hc.2)).2.1 ?_
    refine XS.aloadN X3.here hx rfl (hb hby d_jdk_52_40_28) rfl rfl ?_
    show Steps p.tables e below (T3.setTop (mkF m 29 #[vr t, vi cc, vi 0, vi 1] [(.ref t)])) _
    refine XS.iloadN X3.here hx rfl (hb hby d_jdk_52_40_29) rfl ?_
    refine XS.iloadN X3.here hx rfl (hb hby d_jdk_52_40_30) rfl ?_
    refine XS.iloadN X3.here hx rfl (hb hby d_jdk_52_40_31) rfl ?_
    exact k
  obtain ⟨_, T4, h4, L4, X4, e4, hQ4, st4⟩ := callC X3 hx hZ hown (wq hw 110 rfl) (wq hw 111 rfl) (wq hw 22 rfl) (wq hw 112 rfl) (by decide) (kc := 0) (ks := 0) (Con.sb (W := 0) (rm_uic1 l hD t cc k x0 O0 V_t hx0 hn0 hc) hZ (wq hw 112 rfl) (wq hw 22 rfl) (by decide) (by decide)) e3 (g := (mkF m 32 #[vr t, vi cc, vi 0, vi 1] [(.int 1), (.int 0), (.int cc), (.ref t)])) rfl (by rw [hml]; rfl) (argsL := [(.ref t), (.int cc), (.int 0), (.int 1)]) (rest := []) (lenOf pd_14 rfl) rfl (by show 2 * 0 + _ ≤ _; exact Nat.le_of_eq rfl) (hb hby d_jdk_52_40_32) (by decide) (by decide)
  obtain ⟨rfl, Nq4, Hq4⟩ := hQ4
  refine OEnds.st st4 ?_
  replace N0 := Fr.app N0 Nq4
  replace e4 := e4.trans Hq4
  exact OEnds.ret X4 hx hret hlk rfl (Or.inl ⟨rfl, by simp, _, rfl⟩) (hb hby d_jdk_52_40_35) (by decide) (by decide) (by rw [e4]; exact ⟨rfl, N0, rfl⟩)
-- java/lang/String.length:()I
def Q_sLen1_1 (Z : State) (a : Addr) (t : Addr) (k : ClassId) (x0 : Int32) (h0 : Heap) (v : Option Value) (h : Heap) (L : List Loc) : Prop := v = some (.int 1) ∧ Fr Z.heap.size L ∧ h = h0
theorem ef_sLen1_1 (m : MethodId) (a : Addr) : entryFrame m #[(.ref a)] 1 = mkF m 0 #[vr a] [] := by first | (simp [entryFrame, mkF, argsToLocals, Value.category, vi, vj, vr]; done) | rfl
set_option maxRecDepth 65536 in
set_option maxHeartbeats 40000000 in
theorem rm_sLen1_1 (l : Launch) {Z : State} {a0 : Array Value} (hD : Wd Z a0) (a : Addr) (t : Addr) (k : ClassId) (x0 : Int32) {h0 : Heap} (O0 : Ext Z.heap h0) (E_a : Exa Z h0 a "java/lang/String") (F_coder_a : Fld Z h0 a "java/lang/String" "coder" "B" (.int 1)) (F_value_a : Fld Z h0 a "java/lang/String" "value" "[B" (.ref t)) (V_t : Arv Z h0 t k .byte (2 : Int32) [(.int (x0.toInt8.toInt32)), (.int ((x0 >>> ((8 : Int32) &&& 31)).toInt8.toInt32))] (.int 0)) :
    Con l Z (⟨"java/lang/String", "length", "()I"⟩ : MethodName) jdk_42_method_54_code 1 (some .int) [] ({ frames := 1, cells := 0, slots := 0, locals := 13 } : Room) #[(.ref a)] h0 (Q_sLen1_1 Z a t k x0 h0) := by
  refine Con.walk (plainFor_of_name pn_1) ?_
  intro p e s m below meth c T0 X0 hx hZ hby hml hown hnm hret hlk e0
  obtain ⟨hw, ⟨cz, S_CS, hcz⟩, ⟨sf, S_SF, hsf⟩, S_AD, S_HI, S_LO⟩ := id hD
  have N0 := Fr.nil Z.heap.size
  refine OEnds.cast (ef_sLen1_1 m a) ?_
  refine OEnds.st (S' := T0.setTop (mkF m 1 #[vr a] [(.ref a)])) (fun _ k => ?_) ?_
  · refine XS.aloadN X0.here hx rfl (hb hby d_jdk_42_54_0) rfl rfl ?_
    exact k
  obtain ⟨T1, X1, e1, st1⟩ := getF X0 hx hZ hown (host := "") (Or.inl (wq hw 33 rfl)) Via.refl e0 F_value_a (g := (mkF m 1 #[vr a] [(.ref a)])) rfl rfl (hb hby d_jdk_42_54_1)
  refine OEnds.st st1 ?_
  obtain ⟨cl_t_2, Ar_t_2, q_t_2, S_t_2, N_t_2, H_t_2, G_t_2⟩ := id V_t
  refine OEnds.st (S' := T1.setTop (mkF m 5 #[vr a] [(.int 2)])) (fun tg kq9 => X1.arraylength hx (by rw [e1]; exact Ar_t_2.1) (State.isArrayOf_alike hZ.alike Ar_t_2.2.1) (g := (mkF m 4 #[vr a] [(.ref t)])) rfl rfl (hb hby d_jdk_42_54_4) tg (by rw [len_of S_t_2 N_t_2]; exact kq9)) ?_
  refine OEnds.st (S' := T1.setTop (mkF m 6 #[vr a] [(.ref a), (.int 2)])) (fun _ k => ?_) ?_
  · refine XS.aloadN X1.here hx rfl (hb hby d_jdk_42_54_5) rfl rfl ?_
    exact k
  obtain ⟨_, T3, h3, L3, X3, e3, hQ3, st3⟩ := virtC X1 hx hZ (y := (⟨"java/lang/String", "coder", "()B"⟩ : MethodName)) (z := (⟨"java/lang/String", "coder", "()B"⟩ : MethodName)) hown (wq hw 62 rfl) (wq hw 63 rfl) (nf_sel (args := #[]) (mvT hZ (wq hw 45 rfl)) rfl) (wq hw 65 rfl) (wq hw 64 rfl) (by decide) (kc := 0) (ks := 0) (Con.sb (W := 1) (rm_coder1 l hD a O0 F_coder_a) hZ (wq hw 66 rfl) (wq hw 8 rfl) (by decide) (by decide)) e1 E_a (g := (mkF m 6 #[vr a] [(.ref a), (.int 2)])) rfl (by rw [hml]; rfl) (argsL := []) (rest := [(.int 2)]) (lenOf pd_11 rfl) rfl (by show 2 * 0 + _ ≤ _; exact Nat.le_of_eq rfl) (hb hby d_jdk_42_54_6) (by decide) (by decide)
  obtain ⟨rfl, Nq3, Hq3⟩ := hQ3
  refine OEnds.st st3 ?_
  replace N0 := Fr.app N0 Nq3
  replace e3 := e3.trans Hq3
  refine OEnds.st (S' := T3.setTop (mkF m 10 #[vr a] [(.int 1)])) (fun _ k => ?_) ?_
  · refine XS.ishr X3.here hx rfl (hb hby d_jdk_42_54_9) rfl ?_
    exact k
  exact OEnds.ret X3 hx hret hlk rfl (Or.inl ⟨rfl, by simp, _, rfl⟩) (hb hby d_jdk_42_54_10) (by decide) (by decide) (by rw [e3]; exact ⟨rfl, N0, rfl⟩)
-- java/lang/String.indexOf:(II)I
def Q_io2_1_1 (Z : State) (a : Addr) (cc : Int32) (t : Addr) (k : ClassId) (x0 : Int32) (h0 : Heap) (v : Option Value) (h : Heap) (L : List Loc) : Prop := v = some (.int (-1)) ∧ Fr Z.heap.size L ∧ h = h0
theorem ef_io2_1_1 (m : MethodId) (a : Addr) (cc : Int32) : entryFrame m #[(.ref a), (.int cc), (.int 0)] 3 = mkF m 0 #[vr a, vi cc, vi 0] [] := by first | (simp [entryFrame, mkF, argsToLocals, Value.category, vi, vj, vr]; done) | rfl
theorem d_jdk_42_80_23 : decode jdk_42_method_80_code 23 = .ok (.aload_n 0, 1) := by decide +kernel
theorem d_jdk_42_80_24 : decode jdk_42_method_80_code 24 = .ok (.getfield 9, 3) := by decide +kernel
theorem d_jdk_42_80_27 : decode jdk_42_method_80_code 27 = .ok (.iload_n 1, 1) := by decide +kernel
theorem d_jdk_42_80_28 : decode jdk_42_method_80_code 28 = .ok (.iload_n 2, 1) := by decide +kernel
theorem d_jdk_42_80_29 : decode jdk_42_method_80_code 29 = .ok (.aload_n 0, 1) := by decide +kernel
theorem d_jdk_42_80_30 : decode jdk_42_method_80_code 30 = .ok (.invokevirtual 505, 3) := by decide +kernel
theorem d_jdk_42_80_33 : decode jdk_42_method_80_code 33 = .ok (.invokestatic 640, 3) := by decide +kernel
set_option maxRecDepth 65536 in
set_option maxHeartbeats 40000000 in
theorem rm_io2_1_1 (l : Launch) {Z : State} {a0 : Array Value} (hD : Wd Z a0) (a : Addr) (cc : Int32) (t : Addr) (k : ClassId) (x0 : Int32) {h0 : Heap} (O0 : Ext Z.heap h0) (E_a : Exa Z h0 a "java/lang/String") (F_coder_a : Fld Z h0 a "java/lang/String" "coder" "B" (.int 1)) (F_value_a : Fld Z h0 a "java/lang/String" "value" "[B" (.ref t)) (V_t : Arv Z h0 t k .byte (2 : Int32) [(.int (x0.toInt8.toInt32)), (.int ((x0 >>> ((8 : Int32) &&& 31)).toInt8.toInt32))] (.int 0)) (hx0 : ¬ x0 < 0 ∧ ¬ (65535 : Int32) < x0) (hn0 : ¬ x0 = cc) (hc : ¬ cc < 0 ∧ ¬ (127 : Int32) < cc) :
    Con l Z (⟨"java/lang/String", "indexOf", "(II)I"⟩ : MethodName) jdk_42_method_80_code 3 (some .int) [] ({ frames := 5, cells := 0, slots := 0, locals := 73 } : Room) #[(.ref a), (.int cc), (.int 0)] h0 (Q_io2_1_1 Z a cc t k x0 h0) := by
  refine Con.walk (plainFor_of_name pn_1) ?_
  intro p e s m below meth c T0 X0 hx hZ hby hml hown hnm hret hlk e0
  obtain ⟨hw, ⟨cz, S_CS, hcz⟩, ⟨sf, S_SF, hsf⟩, S_AD, S_HI, S_LO⟩ := id hD
  have N0 := Fr.nil Z.heap.size
  refine OEnds.cast (ef_io2_1_1 m a cc) ?_
  refine OEnds.st (S' := T0.setTop (mkF m 1 #[vr a, vi cc, vi 0] [(.ref a)])) (fun _ k => ?_) ?_
  · refine XS.aloadN X0.here hx rfl (hb hby d_jdk_42_80_0) rfl rfl ?_
    exact k
  obtain ⟨_, T1, h1, L1, X1, e1, hQ1, st1⟩ := virtC X0 hx hZ (y := (⟨"java/lang/String", "isLatin1", "()Z"⟩ : MethodName)) (z := (⟨"java/lang/String", "isLatin1", "()Z"⟩ : MethodName)) hown (wq hw 52 rfl) (wq hw 53 rfl) (nf_sel (args := #[]) (mvT hZ (wq hw 45 rfl)) rfl) (wq hw 55 rfl) (wq hw 54 rfl) (by decide) (kc := 0) (ks := 0) (Con.sb (W := 0) (rm_isLat1 l hD a O0 F_coder_a) hZ (wq hw 56 rfl) (wq hw 8 rfl) (by decide) (by decide)) e0 E_a (g := (mkF m 1 #[vr a, vi cc, vi 0] [(.ref a)])) rfl (by rw [hml]; rfl) (argsL := []) (rest := []) (lenOf pd_12 rfl) rfl (by show 2 * 0 + _ ≤ _; exact Nat.le_of_eq rfl) (hb hby d_jdk_42_80_1) (by decide) (by decide)
  obtain ⟨rfl, Nq1, Hq1⟩ := hQ1
  refine OEnds.st st1 ?_
  replace N0 := Fr.app N0 Nq1
  replace e1 := e1.trans Hq1
  refine OEnds.st (S' := T1.setTop (mkF m 24 #[vr a, vi cc, vi 0] [(.ref a)])) (fun _ k => ?_) ?_
  · refine XS.ifYes X1.here hx rfl (pc0 := 4) (pc' := 23) rfl (hb hby d_jdk_42_80_4) rfl ((if0 _ _).trans (teq (by decide)).1) (by decide) (by decide) ?_
    refine XS.aloadN X1.here hx rfl (hb hby d_jdk_42_80_23) rfl rfl ?_
    exact k
  obtain ⟨T2, X2, e2, st2⟩ := getF X1 hx hZ hown (host := "") (Or.inl (wq hw 33 rfl)) Via.refl e1 F_value_a (g := (mkF m 24 #[vr a, vi cc, vi 0] [(.ref a)])) rfl rfl (hb hby d_jdk_42_80_24)
  refine OEnds.st st2 ?_
  refine OEnds.st (S' := T2.setTop (mkF m 30 #[vr a, vi cc, vi 0] [(.ref a), (.int 0), (.int cc), (.ref t)])) (fun _ k => ?_) ?_
  · refine XS.iloadN X2.here hx rfl (hb hby d_jdk_42_80_27) rfl ?_
    refine XS.iloadN X2.here hx rfl (hb hby d_jdk_42_80_28) rfl ?_
    refine XS.aloadN X2.here hx rfl (hb hby d_jdk_42_80_29) rfl rfl ?_
    exact k
  obtain ⟨_, T3, h3, L3, X3, e3, hQ3, st3⟩ := virtC X2 hx hZ (y := (⟨"java/lang/String", "length", "()I"⟩ : MethodName)) (z := (⟨"java/lang/String", "length", "()I"⟩ : MethodName)) hown (wq hw 57 rfl) (wq hw 58 rfl) (nf_sel (args := #[]) (mvT hZ (wq hw 45 rfl)) rfl) (wq hw 60 rfl) (wq hw 59 rfl) (by decide) (kc := 0) (ks := 0) (Con.sb (W := 3) (rm_sLen1_1 l hD a t k x0 O0 E_a F_coder_a F_value_a V_t) hZ (wq hw 61 rfl) (wq hw 8 rfl) (by decide) (by decide)) e2 E_a (g := (mkF m 30 #[vr a, vi cc, vi 0] [(.ref a), (.int 0), (.int cc), (.ref t)])) rfl (by rw [hml]; rfl) (argsL := []) (rest := [(.int 0), (.int cc), (.ref t)]) (lenOf pd_13 rfl) rfl (by show 2 * 0 + _ ≤ _; exact Nat.le_of_eq rfl) (hb hby d_jdk_42_80_30) (by decide) (by decide)
  obtain ⟨rfl, Nq3, Hq3⟩ := hQ3
  refine OEnds.st st3 ?_
  replace N0 := Fr.app N0 Nq3
  replace e3 := e3.trans Hq3
  obtain ⟨_, T4, h4, L4, X4, e4, hQ4, st4⟩ := callC X3 hx hZ hown (wq hw 104 rfl) (wq hw 105 rfl) (wq hw 22 rfl) (wq hw 106 rfl) (by decide) (kc := 0) (ks := 0) (Con.sb (W := 0) (rm_uio1 l hD t cc k x0 O0 V_t hx0 hn0 hc) hZ (wq hw 106 rfl) (wq hw 22 rfl) (by decide) (by decide)) e3 (g := (mkF m 33 #[vr a, vi cc, vi 0] [(.int 1), (.int 0), (.int cc), (.ref t)])) rfl (by rw [hml]; rfl) (argsL := [(.ref t), (.int cc), (.int 0), (.int 1)]) (rest := []) (lenOf pd_14 rfl) rfl (by show 2 * 0 + _ ≤ _; exact Nat.le_of_eq rfl) (hb hby d_jdk_42_80_33) (by decide) (by decide)
  obtain ⟨rfl, Nq4, Hq4⟩ := hQ4
  refine OEnds.st st4 ?_
  replace N0 := Fr.app N0 Nq4
  replace e4 := e4.trans Hq4
  exact OEnds.ret X4 hx hret hlk rfl (Or.inl ⟨rfl, by simp, _, rfl⟩) (hb hby d_jdk_42_80_36) (by decide) (by decide) (by rw [e4]; exact ⟨rfl, N0, rfl⟩)
-- java/lang/String.indexOf:(I)I
def Q_io1_1_1 (Z : State) (a : Addr) (cc : Int32) (t : Addr) (k : ClassId) (x0 : Int32) (h0 : Heap) (v : Option Value) (h : Heap) (L : List Loc) : Prop := v = some (.int (-1)) ∧ Fr Z.heap.size L ∧ h = h0
theorem ef_io1_1_1 (m : MethodId) (a : Addr) (cc : Int32) : entryFrame m #[(.ref a), (.int cc)] 2 = mkF m 0 #[vr a, vi cc] [] := by first | (simp [entryFrame, mkF, argsToLocals, Value.category, vi, vj, vr]; done) | rfl
set_option maxRecDepth 65536 in
set_option maxHeartbeats 40000000 in
theorem rm_io1_1_1 (l : Launch) {Z : State} {a0 : Array Value} (hD : Wd Z a0) (a : Addr) (cc : Int32) (t : Addr) (k : ClassId) (x0 : Int32) {h0 : Heap} (O0 : Ext Z.heap h0) (E_a : Exa Z h0 a "java/lang/String") (F_coder_a : Fld Z h0 a "java/lang/String" "coder" "B" (.int 1)) (F_value_a : Fld Z h0 a "java/lang/String" "value" "[B" (.ref t)) (V_t : Arv Z h0 t k .byte (2 : Int32) [(.int (x0.toInt8.toInt32)), (.int ((x0 >>> ((8 : Int32) &&& 31)).toInt8.toInt32))] (.int 0)) (hx0 : ¬ x0 < 0 ∧ ¬ (65535 : Int32) < x0) (hn0 : ¬ x0 = cc) (hc : ¬ cc < 0 ∧ ¬ (127 : Int32) < cc) :
    Con l Z (⟨"java/lang/String", "indexOf", "(I)I"⟩ : MethodName) jdk_42_method_79_code 2 (some .int) [] ({ frames := 6, cells := 0, slots := 0, locals := 87 } : Room) #[(.ref a), (.int cc)] h0 (Q_io1_1_1 Z a cc t k x0 h0) := by
  refine Con.walk (plainFor_of_name pn_1) ?_
  intro p e s m below meth c T0 X0 hx hZ hby hml hown hnm hret hlk e0
  obtain ⟨hw, ⟨cz, S_CS, hcz⟩, ⟨sf, S_SF, hsf⟩, S_AD, S_HI, S_LO⟩ := id hD
  have N0 := Fr.nil Z.heap.size
  refine OEnds.cast (ef_io1_1_1 m a cc) ?_
  refine OEnds.st (S' := T0.setTop (mkF m 3 #[vr a, vi cc] [(.int 0), (.int cc), (.ref a)])) (fun _ k => ?_) ?_
  · refine XS.aloadN X0.here hx rfl (hb hby d_jdk_42_79_0) rfl rfl ?_
    refine XS.iloadN X0.here hx rfl (hb hby d_jdk_42_79_1) rfl ?_
    refine XS.iconst X0.here hx rfl (hb hby d_jdk_42_79_2) ?_
    exact k
  obtain ⟨_, T1, h1, L1, X1, e1, hQ1, st1⟩ := virtC X0 hx hZ (y := (⟨"java/lang/String", "indexOf", "(II)I"⟩ : MethodName)) (z := (⟨"java/lang/String", "indexOf", "(II)I"⟩ : MethodName)) hown (wq hw 47 rfl) (wq hw 48 rfl) (nf_sel (args := #[]) (mvT hZ (wq hw 45 rfl)) rfl) (wq hw 50 rfl) (wq hw 49 rfl) (by decide) (kc := 0) (ks := 0) (Con.sb (W := 0) (rm_io2_1_1 l hD a cc t k x0 O0 E_a F_coder_a F_value_a V_t hx0 hn0 hc) hZ (wq hw 51 rfl) (wq hw 8 rfl) (by decide) (by decide)) e0 E_a (g := (mkF m 3 #[vr a, vi cc] [(.int 0), (.int cc), (.ref a)])) rfl (by rw [hml]; rfl) (argsL := [(.int cc), (.int 0)]) (rest := []) (lenOf pd_10 rfl) rfl (by show 2 * 0 + _ ≤ _; exact Nat.le_of_eq rfl) (hb hby d_jdk_42_79_3) (by decide) (by decide)
  obtain ⟨rfl, Nq1, Hq1⟩ := hQ1
  refine OEnds.st st1 ?_
  replace N0 := Fr.app N0 Nq1
  replace e1 := e1.trans Hq1
  exact OEnds.ret X1 hx hret hlk rfl (Or.inl ⟨rfl, by simp, _, rfl⟩) (hb hby d_jdk_42_79_6) (by decide) (by decide) (by rw [e1]; exact ⟨rfl, N0, rfl⟩)
-- com/example/exact_gate/exactgate/Names.requireOneLine:(Ljava/lang/String;Ljava/lang/String;)Ljava/lang/String;
def Q_req1_1 (Z : State) (a : Addr) (nm : Addr) (t : Addr) (k : ClassId) (x0 : Int32) (h0 : Heap) (v : Option Value) (h : Heap) (L : List Loc) : Prop := v = some (.ref a) ∧ Fr Z.heap.size L ∧ h = h0
theorem ef_req1_1 (m : MethodId) (a : Addr) (nm : Addr) : entryFrame m #[(.ref a), (.ref nm)] 2 = mkF m 0 #[vr a, vr nm] [] := by first | (simp [entryFrame, mkF, argsToLocals, Value.category, vi, vj, vr]; done) | rfl
set_option maxRecDepth 65536 in
set_option maxHeartbeats 40000000 in
theorem rm_req1_1 (l : Launch) {Z : State} {a0 : Array Value} (hD : Wd Z a0) (a : Addr) (nm : Addr) (t : Addr) (k : ClassId) (x0 : Int32) {h0 : Heap} (O0 : Ext Z.heap h0) (E_a : Exa Z h0 a "java/lang/String") (F_coder_a : Fld Z h0 a "java/lang/String" "coder" "B" (.int 1)) (F_value_a : Fld Z h0 a "java/lang/String" "value" "[B" (.ref t)) (V_t : Arv Z h0 t k .byte (2 : Int32) [(.int (x0.toInt8.toInt32)), (.int ((x0 >>> ((8 : Int32) &&& 31)).toInt8.toInt32))] (.int 0)) (hx0 : ¬ x0 < 0 ∧ ¬ (65535 : Int32) < x0) (hb0 : ¬ x0 = 10 ∧ ¬ x0 = 13) :
    Con l Z (⟨"com/example/exact_gate/exactgate/Names", "requireOneLine", "(Ljava/lang/String;Ljava/lang/String;)Ljava/lang/String;"⟩ : MethodName) prog_2_method_6_code 2 (some (.object "java/lang/String")) [] ({ frames := 7, cells := 0, slots := 0, locals := 100 } : Room) #[(.ref a), (.ref nm)] h0 (Q_req1_1 Z a nm t k x0 h0) := by
  refine Con.walk (plainFor_of_name pn_5) ?_
  intro p e s m below meth c T0 X0 hx hZ hby hml hown hnm hret hlk e0
  obtain ⟨hw, ⟨cz, S_CS, hcz⟩, ⟨sf, S_SF, hsf⟩, S_AD, S_HI, S_LO⟩ := id hD
  have N0 := Fr.nil Z.heap.size
  refine OEnds.cast (ef_req1_1 m a nm) ?_
  refine OEnds.st (S' := T0.setTop (mkF m 3 #[vr a, vr nm] [(.int 10), (.ref a)])) (fun _ k => ?_) ?_
  · refine XS.aloadN X0.here hx rfl (hb hby d_prog_2_6_0) rfl rfl ?_
    refine XS.bipush X0.here hx rfl (hb hby d_prog_2_6_1) ?_
    exact k
  obtain ⟨_, T1, h1, L1, X1, e1, hQ1, st1⟩ := virtC X0 hx hZ (y := (⟨"java/lang/String", "indexOf", "(I)I"⟩ : MethodName)) (z := (⟨"java/lang/String", "indexOf", "(I)I"⟩ : MethodName)) hown (wq hw 42 rfl) (wq hw 43 rfl) (nf_sel (args := #[]) (mvT hZ (wq hw 45 rfl)) rfl) (wq hw 45 rfl) (wq hw 44 rfl) (by decide) (kc := 0) (ks := 0) (Con.sb (W := 0) (rm_io1_1_1 l hD a (10 : Int32) t k x0 O0 E_a F_coder_a F_value_a V_t hx0 hb0.1 ⟨by decide, by decide⟩) hZ (wq hw 46 rfl) (wq hw 8 rfl) (by decide) (by decide)) e0 E_a (g := (mkF m 3 #[vr a, vr nm] [(.int 10), (.ref a)])) rfl (by rw [hml]; rfl) (argsL := [(.int 10)]) (rest := []) (lenOf pd_1 rfl) rfl (by show 2 * 0 + _ ≤ _; exact Nat.le_of_eq rfl) (hb hby d_prog_2_6_3) (by decide) (by decide)
  obtain ⟨rfl, Nq1, Hq1⟩ := hQ1
  refine OEnds.st st1 ?_
  replace N0 := Fr.app N0 Nq1
  replace e1 := e1.trans Hq1
  refine OEnds.st (S' := T1.setTop (mkF m 12 #[vr a, vr nm] [(.int 13), (.ref a)])) (fun _ k => ?_) ?_
  · refine XS.ifNo X1.here hx rfl (hb hby d_prog_2_6_6) rfl ((if0 _ _).trans (tlt (by decide)).2.1) ?_
    refine XS.aloadN X1.here hx rfl (hb hby d_prog_2_6_9) rfl rfl ?_
    refine XS.bipush X1.here hx rfl (hb hby d_prog_2_6_10) ?_
    exact k
  obtain ⟨_, T2, h2, L2, X2, e2, hQ2, st2⟩ := virtC X1 hx hZ (y := (⟨"java/lang/String", "indexOf", "(I)I"⟩ : MethodName)) (z := (⟨"java/lang/String", "indexOf", "(I)I"⟩ : MethodName)) hown (wq hw 42 rfl) (wq hw 43 rfl) (nf_sel (args := #[]) (mvT hZ (wq hw 45 rfl)) rfl) (wq hw 45 rfl) (wq hw 44 rfl) (by decide) (kc := 0) (ks := 0) (Con.sb (W := 0) (rm_io1_1_1 l hD a (13 : Int32) t k x0 O0 E_a F_coder_a F_value_a V_t hx0 hb0.2 ⟨by decide, by decide⟩) hZ (wq hw 46 rfl) (wq hw 8 rfl) (by decide) (by decide)) e1 E_a (g := (mkF m 12 #[vr a, vr nm] [(.int 13), (.ref a)])) rfl (by rw [hml]; rfl) (argsL := [(.int 13)]) (rest := []) (lenOf pd_1 rfl) rfl (by show 2 * 0 + _ ≤ _; exact Nat.le_of_eq rfl) (hb hby d_prog_2_6_12) (by decide) (by decide)
  obtain ⟨rfl, Nq2, Hq2⟩ := hQ2
  refine OEnds.st st2 ?_
  replace N0 := Fr.app N0 Nq2
  replace e2 := e2.trans Hq2
  refine OEnds.st (S' := T2.setTop (mkF m 33 #[vr a, vr nm] [(.ref a)])) (fun _ k => ?_) ?_
  · refine XS.ifYes X2.here hx rfl (pc0 := 15) (pc' := 32) rfl (hb hby d_prog_2_6_15) rfl ((if0 _ _).trans (tlt (by decide)).1) (by decide) (by decide) ?_
    refine XS.aloadN X2.here hx rfl (hb hby d_prog_2_6_32) rfl rfl ?_
    exact k
  exact OEnds.ret X2 hx hret hlk rfl (Or.inr (Or.inr (Or.inr (Or.inr ⟨rfl, rfl, rfl⟩)))) (hb hby d_prog_2_6_33) (by decide) (by decide) (by rw [e2]; exact ⟨rfl, N0, rfl⟩)
-- java/lang/StringLatin1.indexOfChar:([BIII)I
def Q_ioc2 (Z : State) (t : Addr) (cc : Int32) (k : ClassId) (x0 x1 : Int32) (h0 : Heap) (v : Option Value) (h : Heap) (L : List Loc) : Prop := v = some (.int (-1)) ∧ Fr Z.heap.size L ∧ h = h0
theorem ef_ioc2 (m : MethodId) (t : Addr) (cc : Int32) : entryFrame m #[(.ref t), (.int cc), (.int 0), (.int 2)] 6 = mkF m 0 #[vr t, vi cc, vi 0, vi 2, .unset, .unset] [] := by first | (simp [entryFrame, mkF, argsToLocals, Value.category, vi, vj, vr]; done) | rfl
set_option maxRecDepth 65536 in
set_option maxHeartbeats 40000000 in
theorem rm_ioc2 (l : Launch) {Z : State} {a0 : Array Value} (hD : Wd Z a0) (t : Addr) (cc : Int32) (k : ClassId) (x0 x1 : Int32) {h0 : Heap} (O0 : Ext Z.heap h0) (V_t : Arv Z h0 t k .byte (2 : Int32) [(.int (x0.toInt8.toInt32)), (.int (x1.toInt8.toInt32))] (.int 0)) (hx0 : ¬ x0 < 0 ∧ ¬ (65535 : Int32) < x0) (hx1 : ¬ x1 < 0 ∧ ¬ (65535 : Int32) < x1) (hl0 : ¬ (255 : Int32) < x0) (hl1 : ¬ (255 : Int32) < x1) (hn0 : ¬ x0 = cc) (hn1 : ¬ x1 = cc) (hc : ¬ cc < 0 ∧ ¬ (127 : Int32) < cc) :
    Con l Z (⟨"java/lang/StringLatin1", "indexOfChar", "([BIII)I"⟩ : MethodName) jdk_43_method_23_code 6 (some .int) [] ({ frames := 0, cells := 0, slots := 0, locals := 0 } : Room) #[(.ref t), (.int cc), (.int 0), (.int 2)] h0 (Q_ioc2 Z t cc k x0 x1 h0) := by
  refine Con.walk (plainFor_of_name pn_2) ?_
  intro p e s m below meth c T0 X0 hx hZ hby hml hown hnm hret hlk e0
  obtain ⟨hw, ⟨cz, S_CS, hcz⟩, ⟨sf, S_SF, hsf⟩, S_AD, S_HI, S_LO⟩ := id hD
  have N0 := Fr.nil Z.heap.size
  refine OEnds.cast (ef_ioc2 m t cc) ?_
  refine OEnds.st (S' := T0.setTop (mkF m 16 #[vr t, vi cc, vi 0, vi 2, vi (cc.toInt8.toInt32), vi 0] [(.int 0), (.ref t)])) (fun _ k => ?_) ?_
  · refine XS.iloadN X0.here hx rfl (hb hby d_jdk_43_23_0) rfl ?_
    refine XS.i2b X0.here hx rfl (hb hby d_jdk_43_23_1) rfl ?_
    refine XS.istore X0.here hx rfl (hb hby d_jdk_43_23_2) rfl (l' := #[vr t, vi cc, vi 0, vi 2, vi (cc.toInt8.toInt32), .unset]) rfl ?_
    refine XS.iloadN X0.here hx rfl (hb hby d_jdk_43_23_4) rfl ?_
    show Steps p.tables e below (T0.setTop (mkF m 5 #[vr t, vi cc, vi 0, vi 2, vi (cc.toInt8.toInt32), .unset] [(.int 0)])) _
    refine XS.istore X0.here hx rfl (hb hby d_jdk_43_23_5) rfl (l' := #[vr t, vi cc, vi 0, vi 2, vi (cc.toInt8.toInt32), vi 0]) rfl ?_
    refine XS.iload X0.here hx rfl (hb hby d_jdk_43_23_7) rfl ?_
    refine XS.iloadN X0.here hx rfl (hb hby d_jdk_43_23_9) rfl ?_
    refine XS.icmpNo X0.here hx rfl (hb hby d_jdk_43_23_10) rfl (tlt (by decide)).2.1 ?_
    show Steps p.tables e below (T0.setTop (mkF m 13 #[vr t, vi cc, vi 0, vi 2, vi (cc.toInt8.toInt32), vi 0] [])) _
    refine XS.aloadN X0.here hx rfl (hb hby d_jdk_43_23_13) rfl rfl ?_
    refine XS.iload X0.here hx rfl (hb hby d_jdk_43_23_14) rfl ?_
    exact k
  obtain ⟨cl_t_1, Ar_t_1, q_t_1, S_t_1, N_t_1, H_t_1, G_t_1⟩ := id V_t
  refine OEnds.st (S' := T0.setTop (mkF m 17 #[vr t, vi cc, vi 0, vi 2, vi (cc.toInt8.toInt32), vi 0] [(.int (x0.toInt8.toInt32))])) (X0.baloadBytes hx (j := (0 : Int32)) (v := (.int (x0.toInt8.toInt32))) (by rw [e0]; exact Ar_t_1.1) (State.isArrayOf_alike hZ.alike Ar_t_1.2.1) Ar_t_1.2.2 (inb_of S_t_1 ⟨by decide, by decide⟩) (H_t_1.at (inb_of S_t_1 ⟨by decide, by decide⟩) rfl) (g := (mkF m 16 #[vr t, vi cc, vi 0, vi 2, vi (cc.toInt8.toInt32), vi 0] [(.int 0), (.ref t)])) rfl rfl (hb hby d_jdk_43_23_16)) ?_
  refine OEnds.st (S' := T0.setTop (mkF m 25 #[vr t, vi cc, vi 0, vi 2, vi (cc.toInt8.toInt32), vi 0] [])) (fun _ k => ?_) ?_
  · refine XS.iload X0.here hx rfl (hb hby d_jdk_43_23_17) rfl ?_
    refine XS.icmpYes X0.here hx rfl (pc0 := 19) (pc' := 25) rfl (hb hby d_jdk_43_23_19) rfl (feq (b8_ne (lt16 hx0 hl0) hc hn0)).2 (by decide) (by decide) ?_
    exact k
  refine OEnds.st (S' := T0.setTop (mkF m 7 #[vr t, vi cc, vi 0, vi 2, vi (cc.toInt8.toInt32), vi 1] [])) (fun _ k => ?_) ?_
  · refine XS.iinc X0.here hx rfl (hb hby d_jdk_43_23_25) rfl (l' := #[vr t, vi cc, vi 0, vi 2, vi (cc.toInt8.toInt32), vi 1]) rfl ?_
    refine XS.goto X0.here hx rfl (pc0 := 28) (pc' := 7) rfl (hb hby d_jdk_43_23_28) (by decide) (by decide) ?_
    exact k
  refine OEnds.st (S' := T0.setTop (mkF m 16 #[vr t, vi cc, vi 0, vi 2, vi (cc.toInt8.toInt32), vi 1] [(.int 1), (.ref t)])) (fun _ k => ?_) ?_
  · refine XS.iload X0.here hx rfl (hb hby d_jdk_43_23_7) rfl ?_
    refine XS.iloadN X0.here hx rfl (hb hby d_jdk_43_23_9) rfl ?_
    refine XS.icmpNo X0.here hx rfl (hb hby d_jdk_43_23_10) rfl (tlt (by decide)).2.1 ?_
    refine XS.aloadN X0.here hx rfl (hb hby d_jdk_43_23_13) rfl rfl ?_
    show Steps p.tables e below (T0.setTop (mkF m 14 #[vr t, vi cc, vi 0, vi 2, vi (cc.toInt8.toInt32), vi 1] [(.ref t)])) _
    refine XS.iload X0.here hx rfl (hb hby d_jdk_43_23_14) rfl ?_
    exact k
  obtain ⟨cl_t_2, Ar_t_2, q_t_2, S_t_2, N_t_2, H_t_2, G_t_2⟩ := id V_t
  refine OEnds.st (S' := T0.setTop (mkF m 17 #[vr t, vi cc, vi 0, vi 2, vi (cc.toInt8.toInt32), vi 1] [(.int (x1.toInt8.toInt32))])) (X0.baloadBytes hx (j := (1 : Int32)) (v := (.int (x1.toInt8.toInt32))) (by rw [e0]; exact Ar_t_2.1) (State.isArrayOf_alike hZ.alike Ar_t_2.2.1) Ar_t_2.2.2 (inb_of S_t_2 ⟨by decide, by decide⟩) (H_t_2.at (inb_of S_t_2 ⟨by decide, by decide⟩) rfl) (g := (mkF m 16 #[vr t, vi cc, vi 0, vi 2, vi (cc.toInt8.toInt32), vi 1] [(.int 1), (.ref t)])) rfl rfl (hb hby d_jdk_43_23_16)) ?_
  refine OEnds.st (S' := T0.setTop (mkF m 25 #[vr t, vi cc, vi 0, vi 2, vi (cc.toInt8.toInt32), vi 1] [])) (fun _ k => ?_) ?_
  · refine XS.iload X0.here hx rfl (hb hby d_jdk_43_23_17) rfl ?_
    refine XS.icmpYes X0.here hx rfl (pc0 := 19) (pc' := 25) rfl (hb hby d_jdk_43_23_19) rfl (feq (b8_ne (lt16 hx1 hl1) hc hn1)).2 (by decide) (by decide) ?_
    exact k
  refine OEnds.st (S' := T0.setTop (mkF m 7 #[vr t, vi cc, vi 0, vi 2, vi (cc.toInt8.toInt32), vi 2] [])) (fun _ k => ?_) ?_
  · refine XS.iinc X0.here hx rfl (hb hby d_jdk_43_23_25) rfl (l' := #[vr t, vi cc, vi 0, vi 2, vi (cc.toInt8.toInt32), vi 2]) rfl ?_
    refine XS.goto X0.here hx rfl (pc0 := 28) (pc' := 7) rfl (hb hby d_jdk_43_23_28) (by decide) (by decide) ?_
    exact k
  refine OEnds.st (S' := T0.setTop (mkF m 32 #[vr t, vi cc, vi 0, vi 2, vi (cc.toInt8.toInt32), vi 2] [(.int (-1))])) (fun _ k => ?_) ?_
  · refine XS.iload X0.here hx rfl (hb hby d_jdk_43_23_7) rfl ?_
    refine XS.iloadN X0.here hx rfl (hb hby d_jdk_43_23_9) rfl ?_
    refine XS.icmpYes X0.here hx rfl (pc0 := 10) (pc' := 31) rfl (hb hby d_jdk_43_23_10) rfl (flt (by decide)).2.1 (by decide) (by decide) ?_
    refine XS.iconst X0.here hx rfl (hb hby d_jdk_43_23_31) ?_
    exact k
  exact OEnds.ret X0 hx hret hlk rfl (Or.inl ⟨rfl, by simp, _, rfl⟩) (hb hby d_jdk_43_23_32) (by decide) (by decide) (by rw [e0]; exact ⟨rfl, N0, rfl⟩)
-- java/lang/StringLatin1.indexOf:([BIII)I
def Q_lio2 (Z : State) (t : Addr) (cc : Int32) (k : ClassId) (x0 x1 : Int32) (h0 : Heap) (v : Option Value) (h : Heap) (L : List Loc) : Prop := v = some (.int (-1)) ∧ Fr Z.heap.size L ∧ h = h0
theorem ef_lio2 (m : MethodId) (t : Addr) (cc : Int32) : entryFrame m #[(.ref t), (.int cc), (.int 0), (.int 2)] 4 = mkF m 0 #[vr t, vi cc, vi 0, vi 2] [] := by first | (simp [entryFrame, mkF, argsToLocals, Value.category, vi, vj, vr]; done) | rfl
set_option maxRecDepth 65536 in
set_option maxHeartbeats 40000000 in
theorem rm_lio2 (l : Launch) {Z : State} {a0 : Array Value} (hD : Wd Z a0) (t : Addr) (cc : Int32) (k : ClassId) (x0 x1 : Int32) {h0 : Heap} (O0 : Ext Z.heap h0) (V_t : Arv Z h0 t k .byte (2 : Int32) [(.int (x0.toInt8.toInt32)), (.int (x1.toInt8.toInt32))] (.int 0)) (hx0 : ¬ x0 < 0 ∧ ¬ (65535 : Int32) < x0) (hx1 : ¬ x1 < 0 ∧ ¬ (65535 : Int32) < x1) (hl0 : ¬ (255 : Int32) < x0) (hl1 : ¬ (255 : Int32) < x1) (hn0 : ¬ x0 = cc) (hn1 : ¬ x1 = cc) (hc : ¬ cc < 0 ∧ ¬ (127 : Int32) < cc) :
    Con l Z (⟨"java/lang/StringLatin1", "indexOf", "([BIII)I"⟩ : MethodName) jdk_43_method_22_code 4 (some .int) [] ({ frames := 1, cells := 0, slots := 0, locals := 17 } : Room) #[(.ref t), (.int cc), (.int 0), (.int 2)] h0 (Q_lio2 Z t cc k x0 x1 h0) := by
  refine Con.walk (plainFor_of_name pn_2) ?_
  intro p e s m below meth c T0 X0 hx hZ hby hml hown hnm hret hlk e0
  obtain ⟨hw, ⟨cz, S_CS, hcz⟩, ⟨sf, S_SF, hsf⟩, S_AD, S_HI, S_LO⟩ := id hD
  have N0 := Fr.nil Z.heap.size
  refine OEnds.cast (ef_lio2 m t cc) ?_
  refine OEnds.st (S' := T0.setTop (mkF m 1 #[vr t, vi cc, vi 0, vi 2] [(.int cc)])) (fun _ k => ?_) ?_
  · refine XS.iloadN X0.here hx rfl (hb hby d_jdk_43_22_0) rfl ?_
    exact k
  obtain ⟨_, T1, h1, L1, X1, e1, hQ1, st1⟩ := callC X0 hx hZ hown (wq hw 71 rfl) (wq hw 72 rfl) (wq hw 69 rfl) (wq hw 73 rfl) (by decide) (kc := 0) (ks := 0) (Con.sb (W := 0) (rm_canEnc l hD cc O0 hc) hZ (wq hw 73 rfl) (wq hw 69 rfl) (by decide) (by decide)) e0 (g := (mkF m 1 #[vr t, vi cc, vi 0, vi 2] [(.int cc)])) rfl (by rw [hml]; rfl) (argsL := [(.int cc)]) (rest := []) (lenOf pd_9 rfl) rfl (by show 2 * 0 + _ ≤ _; exact Nat.le_of_eq rfl) (hb hby d_jdk_43_22_1) (by decide) (by decide)
  obtain ⟨rfl, Nq1, Hq1⟩ := hQ1
  refine OEnds.st st1 ?_
  replace N0 := Fr.app N0 Nq1
  replace e1 := e1.trans Hq1
  refine OEnds.st (S' := T1.setTop (mkF m 11 #[vr t, vi cc, vi 0, vi 2] [(.int 0), (.int 0)])) (fun _ k => ?_) ?_
  · refine XS.ifYes X1.here hx rfl (pc0 := 4) (pc' := 9) rfl (hb hby d_jdk_43_22_4) rfl ((if0 _ _).trans (feq (by decide)).2) (by decide) (by decide) ?_
    refine XS.iloadN X1.here hx rfl (hb hby d_jdk_43_22_9) rfl ?_
    refine XS.iconst X1.here hx rfl (hb hby d_jdk_43_22_10) ?_
    exact k
  obtain ⟨_, T2, h2, L2, X2, e2, hQ2, st2⟩ := callC X1 hx hZ hown (wq hw 74 rfl) (wq hw 75 rfl) (wq hw 76 rfl) (wq hw 77 rfl) (by decide) (kc := 0) (ks := 0) (Con.sb (W := 0) (rm_max00 l hD  O0) hZ (wq hw 77 rfl) (wq hw 76 rfl) (by decide) (by decide)) e1 (g := (mkF m 11 #[vr t, vi cc, vi 0, vi 2] [(.int 0), (.int 0)])) rfl (by rw [hml]; rfl) (argsL := [(.int 0), (.int 0)]) (rest := []) (lenOf pd_10 rfl) rfl (by show 2 * 0 + _ ≤ _; exact Nat.le_of_eq rfl) (hb hby d_jdk_43_22_11) (by decide) (by decide)
  obtain ⟨rfl, Nq2, Hq2⟩ := hQ2
  refine OEnds.st st2 ?_
  replace N0 := Fr.app N0 Nq2
  replace e2 := e2.trans Hq2
  refine OEnds.st (S' := T2.setTop (mkF m 17 #[vr t, vi cc, vi 0, vi 2] [(.ref t), (.int 2)])) (fun _ k => ?_) ?_
  · refine XS.istoreN X2.here hx rfl (hb hby d_jdk_43_22_14) rfl (l' := #[vr t, vi cc, vi 0, vi 2]) rfl ?_
    refine XS.iloadN X2.here hx rfl (hb hby d_jdk_43_22_15) rfl ?_
    refine XS.aloadN X2.here hx rfl (hb hby d_jdk_43_22_16) rfl rfl ?_
    exact k
  obtain ⟨cl_t_3, Ar_t_3, q_t_3, S_t_3, N_t_3, H_t_3, G_t_3⟩ := id V_t
  refine OEnds.st (S' := T2.setTop (mkF m 18 #[vr t, vi cc, vi 0, vi 2] [(.int 2), (.int 2)])) (fun tg kq9 => X2.arraylength hx (by rw [e2]; exact Ar_t_3.1) (State.isArrayOf_alike hZ.alike Ar_t_3.2.1) (g := (mkF m 17 #[vr t, vi cc, vi 0, vi 2] [(.ref t), (.int 2)])) rfl rfl (hb hby d_jdk_43_22_17) tg (by rw [len_of S_t_3 N_t_3]; exact kq9)) ?_
  obtain ⟨_, T4, h4, L4, X4, e4, hQ4, st4⟩ := callC X2 hx hZ hown (wq hw 78 rfl) (wq hw 79 rfl) (wq hw 76 rfl) (wq hw 80 rfl) (by decide) (kc := 0) (ks := 0) (Con.sb (W := 0) (rm_minSame l hD (2 : Int32) O0) hZ (wq hw 80 rfl) (wq hw 76 rfl) (by decide) (by decide)) e2 (g := (mkF m 18 #[vr t, vi cc, vi 0, vi 2] [(.int 2), (.int 2)])) rfl (by rw [hml]; rfl) (argsL := [(.int 2), (.int 2)]) (rest := []) (lenOf pd_10 rfl) rfl (by show 2 * 0 + _ ≤ _; exact Nat.le_of_eq rfl) (hb hby d_jdk_43_22_18) (by decide) (by decide)
  obtain ⟨rfl, Nq4, Hq4⟩ := hQ4
  refine OEnds.st st4 ?_
  replace N0 := Fr.app N0 Nq4
  replace e4 := e4.trans Hq4
  refine OEnds.st (S' := T4.setTop (mkF m 33 #[vr t, vi cc, vi 0, vi 2] [(.int 2), (.int 0), (.int cc), (.ref t)])) (fun _ k => ?_) ?_
  · refine XS.istoreN X4.here hx rfl (hb hby d_jdk_43_22_21) rfl (l' := #[vr t, vi cc, vi 0, vi 2]) rfl ?_
    refine XS.iloadN X4.here hx rfl (hb hby d_jdk_43_22_22) rfl ?_
    refine XS.iloadN X4.here hx rfl (hb hby d_jdk_43_22_23) rfl ?_
    refine XS.icmpYes X4.here hx rfl (pc0 := 24) (pc' := 29) rfl (hb hby d_jdk_43_22_24) rfl (tlt (by decide)).1 (by decide) (by decide) ?_
    show Steps p.tables e below (T4.setTop (mkF m 29 #[vr t, vi cc, vi 0, vi 2] [])) _
    refine XS.aloadN X4.here hx rfl (hb hby d_jdk_43_22_29) rfl rfl ?_
    refine XS.iloadN X4.here hx rfl (hb hby d_jdk_43_22_30) rfl ?_
    refine XS.iloadN X4.here hx rfl (hb hby d_jdk_43_22_31) rfl ?_
    refine XS.iloadN X4.here hx rfl (hb hby d_jdk_43_22_32) rfl ?_
    exact k
  obtain ⟨_, T5, h5, L5, X5, e5, hQ5, st5⟩ := callC X4 hx hZ hown (wq hw 81 rfl) (wq hw 82 rfl) (wq hw 69 rfl) (wq hw 83 rfl) (by decide) (kc := 0) (ks := 0) (Con.sb (W := 0) (rm_ioc2 l hD t cc k x0 x1 O0 V_t hx0 hx1 hl0 hl1 hn0 hn1 hc) hZ (wq hw 83 rfl) (wq hw 69 rfl) (by decide) (by decide)) e4 (g := (mkF m 33 #[vr t, vi cc, vi 0, vi 2] [(.int 2), (.int 0), (.int cc), (.ref t)])) rfl (by rw [hml]; rfl) (argsL := [(.ref t), (.int cc), (.int 0), (.int 2)]) (rest := []) (lenOf pd_14 rfl) rfl (by show 2 * 0 + _ ≤ _; exact Nat.le_of_eq rfl) (hb hby d_jdk_43_22_33) (by decide) (by decide)
  obtain ⟨rfl, Nq5, Hq5⟩ := hQ5
  refine OEnds.st st5 ?_
  replace N0 := Fr.app N0 Nq5
  replace e5 := e5.trans Hq5
  exact OEnds.ret X5 hx hret hlk rfl (Or.inl ⟨rfl, by simp, _, rfl⟩) (hb hby d_jdk_43_22_36) (by decide) (by decide) (by rw [e5]; exact ⟨rfl, N0, rfl⟩)
-- java/lang/String.length:()I
def Q_sLen2_0 (Z : State) (a : Addr) (t : Addr) (k : ClassId) (x0 x1 : Int32) (h0 : Heap) (v : Option Value) (h : Heap) (L : List Loc) : Prop := v = some (.int 2) ∧ Fr Z.heap.size L ∧ h = h0
theorem ef_sLen2_0 (m : MethodId) (a : Addr) : entryFrame m #[(.ref a)] 1 = mkF m 0 #[vr a] [] := by first | (simp [entryFrame, mkF, argsToLocals, Value.category, vi, vj, vr]; done) | rfl
set_option maxRecDepth 65536 in
set_option maxHeartbeats 40000000 in
theorem rm_sLen2_0 (l : Launch) {Z : State} {a0 : Array Value} (hD : Wd Z a0) (a : Addr) (t : Addr) (k : ClassId) (x0 x1 : Int32) {h0 : Heap} (O0 : Ext Z.heap h0) (E_a : Exa Z h0 a "java/lang/String") (F_coder_a : Fld Z h0 a "java/lang/String" "coder" "B" (.int 0)) (F_value_a : Fld Z h0 a "java/lang/String" "value" "[B" (.ref t)) (V_t : Arv Z h0 t k .byte (2 : Int32) [(.int (x0.toInt8.toInt32)), (.int (x1.toInt8.toInt32))] (.int 0)) :
    Con l Z (⟨"java/lang/String", "length", "()I"⟩ : MethodName) jdk_42_method_54_code 1 (some .int) [] ({ frames := 1, cells := 0, slots := 0, locals := 13 } : Room) #[(.ref a)] h0 (Q_sLen2_0 Z a t k x0 x1 h0) := by
  refine Con.walk (plainFor_of_name pn_1) ?_
  intro p e s m below meth c T0 X0 hx hZ hby hml hown hnm hret hlk e0
  obtain ⟨hw, ⟨cz, S_CS, hcz⟩, ⟨sf, S_SF, hsf⟩, S_AD, S_HI, S_LO⟩ := id hD
  have N0 := Fr.nil Z.heap.size
  refine OEnds.cast (ef_sLen2_0 m a) ?_
  refine OEnds.st (S' := T0.setTop (mkF m 1 #[vr a] [(.ref a)])) (fun _ k => ?_) ?_
  · refine XS.aloadN X0.here hx rfl (hb hby d_jdk_42_54_0) rfl rfl ?_
    exact k
  obtain ⟨T1, X1, e1, st1⟩ := getF X0 hx hZ hown (host := "") (Or.inl (wq hw 33 rfl)) Via.refl e0 F_value_a (g := (mkF m 1 #[vr a] [(.ref a)])) rfl rfl (hb hby d_jdk_42_54_1)
  refine OEnds.st st1 ?_
  obtain ⟨cl_t_2, Ar_t_2, q_t_2, S_t_2, N_t_2, H_t_2, G_t_2⟩ := id V_t
  refine OEnds.st (S' := T1.setTop (mkF m 5 #[vr a] [(.int 2)])) (fun tg kq9 => X1.arraylength hx (by rw [e1]; exact Ar_t_2.1) (State.isArrayOf_alike hZ.alike Ar_t_2.2.1) (g := (mkF m 4 #[vr a] [(.ref t)])) rfl rfl (hb hby d_jdk_42_54_4) tg (by rw [len_of S_t_2 N_t_2]; exact kq9)) ?_
  refine OEnds.st (S' := T1.setTop (mkF m 6 #[vr a] [(.ref a), (.int 2)])) (fun _ k => ?_) ?_
  · refine XS.aloadN X1.here hx rfl (hb hby d_jdk_42_54_5) rfl rfl ?_
    exact k
  obtain ⟨_, T3, h3, L3, X3, e3, hQ3, st3⟩ := virtC X1 hx hZ (y := (⟨"java/lang/String", "coder", "()B"⟩ : MethodName)) (z := (⟨"java/lang/String", "coder", "()B"⟩ : MethodName)) hown (wq hw 62 rfl) (wq hw 63 rfl) (nf_sel (args := #[]) (mvT hZ (wq hw 45 rfl)) rfl) (wq hw 65 rfl) (wq hw 64 rfl) (by decide) (kc := 0) (ks := 0) (Con.sb (W := 1) (rm_coder0 l hD a O0 F_coder_a) hZ (wq hw 66 rfl) (wq hw 8 rfl) (by decide) (by decide)) e1 E_a (g := (mkF m 6 #[vr a] [(.ref a), (.int 2)])) rfl (by rw [hml]; rfl) (argsL := []) (rest := [(.int 2)]) (lenOf pd_11 rfl) rfl (by show 2 * 0 + _ ≤ _; exact Nat.le_of_eq rfl) (hb hby d_jdk_42_54_6) (by decide) (by decide)
  obtain ⟨rfl, Nq3, Hq3⟩ := hQ3
  refine OEnds.st st3 ?_
  replace N0 := Fr.app N0 Nq3
  replace e3 := e3.trans Hq3
  refine OEnds.st (S' := T3.setTop (mkF m 10 #[vr a] [(.int 2)])) (fun _ k => ?_) ?_
  · refine XS.ishr X3.here hx rfl (hb hby d_jdk_42_54_9) rfl ?_
    exact k
  exact OEnds.ret X3 hx hret hlk rfl (Or.inl ⟨rfl, by simp, _, rfl⟩) (hb hby d_jdk_42_54_10) (by decide) (by decide) (by rw [e3]; exact ⟨rfl, N0, rfl⟩)
-- java/lang/String.indexOf:(II)I
def Q_io2_2_0 (Z : State) (a : Addr) (cc : Int32) (t : Addr) (k : ClassId) (x0 x1 : Int32) (h0 : Heap) (v : Option Value) (h : Heap) (L : List Loc) : Prop := v = some (.int (-1)) ∧ Fr Z.heap.size L ∧ h = h0
theorem ef_io2_2_0 (m : MethodId) (a : Addr) (cc : Int32) : entryFrame m #[(.ref a), (.int cc), (.int 0)] 3 = mkF m 0 #[vr a, vi cc, vi 0] [] := by first | (simp [entryFrame, mkF, argsToLocals, Value.category, vi, vj, vr]; done) | rfl
set_option maxRecDepth 65536 in
set_option maxHeartbeats 40000000 in
theorem rm_io2_2_0 (l : Launch) {Z : State} {a0 : Array Value} (hD : Wd Z a0) (a : Addr) (cc : Int32) (t : Addr) (k : ClassId) (x0 x1 : Int32) {h0 : Heap} (O0 : Ext Z.heap h0) (E_a : Exa Z h0 a "java/lang/String") (F_coder_a : Fld Z h0 a "java/lang/String" "coder" "B" (.int 0)) (F_value_a : Fld Z h0 a "java/lang/String" "value" "[B" (.ref t)) (V_t : Arv Z h0 t k .byte (2 : Int32) [(.int (x0.toInt8.toInt32)), (.int (x1.toInt8.toInt32))] (.int 0)) (hx0 : ¬ x0 < 0 ∧ ¬ (65535 : Int32) < x0) (hx1 : ¬ x1 < 0 ∧ ¬ (65535 : Int32) < x1) (hl0 : ¬ (255 : Int32) < x0) (hl1 : ¬ (255 : Int32) < x1) (hn0 : ¬ x0 = cc) (hn1 : ¬ x1 = cc) (hc : ¬ cc < 0 ∧ ¬ (127 : Int32) < cc) :
    Con l Z (⟨"java/lang/String", "indexOf", "(II)I"⟩ : MethodName) jdk_42_method_80_code 3 (some .int) [] ({ frames := 2, cells := 0, slots := 0, locals := 32 } : Room) #[(.ref a), (.int cc), (.int 0)] h0 (Q_io2_2_0 Z a cc t k x0 x1 h0) := by
  refine Con.walk (plainFor_of_name pn_1) ?_
  intro p e s m below meth c T0 X0 hx hZ hby hml hown hnm hret hlk e0
  obtain ⟨hw, ⟨cz, S_CS, hcz⟩, ⟨sf, S_SF, hsf⟩, S_AD, S_HI, S_LO⟩ := id hD
  have N0 := Fr.nil Z.heap.size
  refine OEnds.cast (ef_io2_2_0 m a cc) ?_
  refine OEnds.st (S' := T0.setTop (mkF m 1 #[vr a, vi cc, vi 0] [(.ref a)])) (fun _ k => ?_) ?_
  · refine XS.aloadN X0.here hx rfl (hb hby d_jdk_42_80_0) rfl rfl ?_
    exact k
  obtain ⟨_, T1, h1, L1, X1, e1, hQ1, st1⟩ := virtC X0 hx hZ (y := (⟨"java/lang/String", "isLatin1", "()Z"⟩ : MethodName)) (z := (⟨"java/lang/String", "isLatin1", "()Z"⟩ : MethodName)) hown (wq hw 52 rfl) (wq hw 53 rfl) (nf_sel (args := #[]) (mvT hZ (wq hw 45 rfl)) rfl) (wq hw 55 rfl) (wq hw 54 rfl) (by decide) (kc := 0) (ks := 0) (Con.sb (W := 0) (rm_isLat0 l hD a O0 F_coder_a) hZ (wq hw 56 rfl) (wq hw 8 rfl) (by decide) (by decide)) e0 E_a (g := (mkF m 1 #[vr a, vi cc, vi 0] [(.ref a)])) rfl (by rw [hml]; rfl) (argsL := []) (rest := []) (lenOf pd_12 rfl) rfl (by show 2 * 0 + _ ≤ _; exact Nat.le_of_eq rfl) (hb hby d_jdk_42_80_1) (by decide) (by decide)
  obtain ⟨rfl, Nq1, Hq1⟩ := hQ1
  refine OEnds.st st1 ?_
  replace N0 := Fr.app N0 Nq1
  replace e1 := e1.trans Hq1
  refine OEnds.st (S' := T1.setTop (mkF m 8 #[vr a, vi cc, vi 0] [(.ref a)])) (fun _ k => ?_) ?_
  · refine XS.ifNo X1.here hx rfl (hb hby d_jdk_42_80_4) rfl ((if0 _ _).trans (feq (by decide)).1) ?_
    refine XS.aloadN X1.here hx rfl (hb hby d_jdk_42_80_7) rfl rfl ?_
    exact k
  obtain ⟨T2, X2, e2, st2⟩ := getF X1 hx hZ hown (host := "") (Or.inl (wq hw 33 rfl)) Via.refl e1 F_value_a (g := (mkF m 8 #[vr a, vi cc, vi 0] [(.ref a)])) rfl rfl (hb hby d_jdk_42_80_8)
  refine OEnds.st st2 ?_
  refine OEnds.st (S' := T2.setTop (mkF m 14 #[vr a, vi cc, vi 0] [(.ref a), (.int 0), (.int cc), (.ref t)])) (fun _ k => ?_) ?_
  · refine XS.iloadN X2.here hx rfl (hb hby d_jdk_42_80_11) rfl ?_
    refine XS.iloadN X2.here hx rfl (hb hby d_jdk_42_80_12) rfl ?_
    refine XS.aloadN X2.here hx rfl (hb hby d_jdk_42_80_13) rfl rfl ?_
    exact k
  obtain ⟨_, T3, h3, L3, X3, e3, hQ3, st3⟩ := virtC X2 hx hZ (y := (⟨"java/lang/String", "length", "()I"⟩ : MethodName)) (z := (⟨"java/lang/String", "length", "()I"⟩ : MethodName)) hown (wq hw 57 rfl) (wq hw 58 rfl) (nf_sel (args := #[]) (mvT hZ (wq hw 45 rfl)) rfl) (wq hw 60 rfl) (wq hw 59 rfl) (by decide) (kc := 0) (ks := 0) (Con.sb (W := 3) (rm_sLen2_0 l hD a t k x0 x1 O0 E_a F_coder_a F_value_a V_t) hZ (wq hw 61 rfl) (wq hw 8 rfl) (by decide) (by decide)) e2 E_a (g := (mkF m 14 #[vr a, vi cc, vi 0] [(.ref a), (.int 0), (.int cc), (.ref t)])) rfl (by rw [hml]; rfl) (argsL := []) (rest := [(.int 0), (.int cc), (.ref t)]) (lenOf pd_13 rfl) rfl (by show 2 * 0 + _ ≤ _; exact Nat.le_of_eq rfl) (hb hby d_jdk_42_80_14) (by decide) (by decide)
  obtain ⟨rfl, Nq3, Hq3⟩ := hQ3
  refine OEnds.st st3 ?_
  replace N0 := Fr.app N0 Nq3
  replace e3 := e3.trans Hq3
  obtain ⟨_, T4, h4, L4, X4, e4, hQ4, st4⟩ := callC X3 hx hZ hown (wq hw 67 rfl) (wq hw 68 rfl) (wq hw 69 rfl) (wq hw 70 rfl) (by decide) (kc := 0) (ks := 0) (Con.sb (W := 0) (rm_lio2 l hD t cc k x0 x1 O0 V_t hx0 hx1 hl0 hl1 hn0 hn1 hc) hZ (wq hw 70 rfl) (wq hw 69 rfl) (by decide) (by decide)) e3 (g := (mkF m 17 #[vr a, vi cc, vi 0] [(.int 2), (.int 0), (.int cc), (.ref t)])) rfl (by rw [hml]; rfl) (argsL := [(.ref t), (.int cc), (.int 0), (.int 2)]) (rest := []) (lenOf pd_14 rfl) rfl (by show 2 * 0 + _ ≤ _; exact Nat.le_of_eq rfl) (hb hby d_jdk_42_80_17) (by decide) (by decide)
  obtain ⟨rfl, Nq4, Hq4⟩ := hQ4
  refine OEnds.st st4 ?_
  replace N0 := Fr.app N0 Nq4
  replace e4 := e4.trans Hq4
  refine OEnds.st (S' := T4.setTop (mkF m 36 #[vr a, vi cc, vi 0] [(.int (-1))])) (fun _ k => ?_) ?_
  · refine XS.goto X4.here hx rfl (pc0 := 20) (pc' := 36) rfl (hb hby d_jdk_42_80_20) (by decide) (by decide) ?_
    exact k
  exact OEnds.ret X4 hx hret hlk rfl (Or.inl ⟨rfl, by simp, _, rfl⟩) (hb hby d_jdk_42_80_36) (by decide) (by decide) (by rw [e4]; exact ⟨rfl, N0, rfl⟩)
-- java/lang/String.indexOf:(I)I
def Q_io1_2_0 (Z : State) (a : Addr) (cc : Int32) (t : Addr) (k : ClassId) (x0 x1 : Int32) (h0 : Heap) (v : Option Value) (h : Heap) (L : List Loc) : Prop := v = some (.int (-1)) ∧ Fr Z.heap.size L ∧ h = h0
theorem ef_io1_2_0 (m : MethodId) (a : Addr) (cc : Int32) : entryFrame m #[(.ref a), (.int cc)] 2 = mkF m 0 #[vr a, vi cc] [] := by first | (simp [entryFrame, mkF, argsToLocals, Value.category, vi, vj, vr]; done) | rfl
set_option maxRecDepth 65536 in
set_option maxHeartbeats 40000000 in
theorem rm_io1_2_0 (l : Launch) {Z : State} {a0 : Array Value} (hD : Wd Z a0) (a : Addr) (cc : Int32) (t : Addr) (k : ClassId) (x0 x1 : Int32) {h0 : Heap} (O0 : Ext Z.heap h0) (E_a : Exa Z h0 a "java/lang/String") (F_coder_a : Fld Z h0 a "java/lang/String" "coder" "B" (.int 0)) (F_value_a : Fld Z h0 a "java/lang/String" "value" "[B" (.ref t)) (V_t : Arv Z h0 t k .byte (2 : Int32) [(.int (x0.toInt8.toInt32)), (.int (x1.toInt8.toInt32))] (.int 0)) (hx0 : ¬ x0 < 0 ∧ ¬ (65535 : Int32) < x0) (hx1 : ¬ x1 < 0 ∧ ¬ (65535 : Int32) < x1) (hl0 : ¬ (255 : Int32) < x0) (hl1 : ¬ (255 : Int32) < x1) (hn0 : ¬ x0 = cc) (hn1 : ¬ x1 = cc) (hc : ¬ cc < 0 ∧ ¬ (127 : Int32) < cc) :
    Con l Z (⟨"java/lang/String", "indexOf", "(I)I"⟩ : MethodName) jdk_42_method_79_code 2 (some .int) [] ({ frames := 3, cells := 0, slots := 0, locals := 46 } : Room) #[(.ref a), (.int cc)] h0 (Q_io1_2_0 Z a cc t k x0 x1 h0) := by
  refine Con.walk (plainFor_of_name pn_1) ?_
  intro p e s m below meth c T0 X0 hx hZ hby hml hown hnm hret hlk e0
  obtain ⟨hw, ⟨cz, S_CS, hcz⟩, ⟨sf, S_SF, hsf⟩, S_AD, S_HI, S_LO⟩ := id hD
  have N0 := Fr.nil Z.heap.size
  refine OEnds.cast (ef_io1_2_0 m a cc) ?_
  refine OEnds.st (S' := T0.setTop (mkF m 3 #[vr a, vi cc] [(.int 0), (.int cc), (.ref a)])) (fun _ k => ?_) ?_
  · refine XS.aloadN X0.here hx rfl (hb hby d_jdk_42_79_0) rfl rfl ?_
    refine XS.iloadN X0.here hx rfl (hb hby d_jdk_42_79_1) rfl ?_
    refine XS.iconst X0.here hx rfl (hb hby d_jdk_42_79_2) ?_
    exact k
  obtain ⟨_, T1, h1, L1, X1, e1, hQ1, st1⟩ := virtC X0 hx hZ (y := (⟨"java/lang/String", "indexOf", "(II)I"⟩ : MethodName)) (z := (⟨"java/lang/String", "indexOf", "(II)I"⟩ : MethodName)) hown (wq hw 47 rfl) (wq hw 48 rfl) (nf_sel (args := #[]) (mvT hZ (wq hw 45 rfl)) rfl) (wq hw 50 rfl) (wq hw 49 rfl) (by decide) (kc := 0) (ks := 0) (Con.sb (W := 0) (rm_io2_2_0 l hD a cc t k x0 x1 O0 E_a F_coder_a F_value_a V_t hx0 hx1 hl0 hl1 hn0 hn1 hc) hZ (wq hw 51 rfl) (wq hw 8 rfl) (by decide) (by decide)) e0 E_a (g := (mkF m 3 #[vr a, vi cc] [(.int 0), (.int cc), (.ref a)])) rfl (by rw [hml]; rfl) (argsL := [(.int cc), (.int 0)]) (rest := []) (lenOf pd_10 rfl) rfl (by show 2 * 0 + _ ≤ _; exact Nat.le_of_eq rfl) (hb hby d_jdk_42_79_3) (by decide) (by decide)
  obtain ⟨rfl, Nq1, Hq1⟩ := hQ1
  refine OEnds.st st1 ?_
  replace N0 := Fr.app N0 Nq1
  replace e1 := e1.trans Hq1
  exact OEnds.ret X1 hx hret hlk rfl (Or.inl ⟨rfl, by simp, _, rfl⟩) (hb hby d_jdk_42_79_6) (by decide) (by decide) (by rw [e1]; exact ⟨rfl, N0, rfl⟩)
-- com/example/exact_gate/exactgate/Names.requireOneLine:(Ljava/lang/String;Ljava/lang/String;)Ljava/lang/String;
def Q_req2_0 (Z : State) (a : Addr) (nm : Addr) (t : Addr) (k : ClassId) (x0 x1 : Int32) (h0 : Heap) (v : Option Value) (h : Heap) (L : List Loc) : Prop := v = some (.ref a) ∧ Fr Z.heap.size L ∧ h = h0
theorem ef_req2_0 (m : MethodId) (a : Addr) (nm : Addr) : entryFrame m #[(.ref a), (.ref nm)] 2 = mkF m 0 #[vr a, vr nm] [] := by first | (simp [entryFrame, mkF, argsToLocals, Value.category, vi, vj, vr]; done) | rfl
set_option maxRecDepth 65536 in
set_option maxHeartbeats 40000000 in
theorem rm_req2_0 (l : Launch) {Z : State} {a0 : Array Value} (hD : Wd Z a0) (a : Addr) (nm : Addr) (t : Addr) (k : ClassId) (x0 x1 : Int32) {h0 : Heap} (O0 : Ext Z.heap h0) (E_a : Exa Z h0 a "java/lang/String") (F_coder_a : Fld Z h0 a "java/lang/String" "coder" "B" (.int 0)) (F_value_a : Fld Z h0 a "java/lang/String" "value" "[B" (.ref t)) (V_t : Arv Z h0 t k .byte (2 : Int32) [(.int (x0.toInt8.toInt32)), (.int (x1.toInt8.toInt32))] (.int 0)) (hx0 : ¬ x0 < 0 ∧ ¬ (65535 : Int32) < x0) (hx1 : ¬ x1 < 0 ∧ ¬ (65535 : Int32) < x1) (hl0 : ¬ (255 : Int32) < x0) (hl1 : ¬ (255 : Int32) < x1) (hb0 : ¬ x0 = 10 ∧ ¬ x0 = 13) (hb1 : ¬ x1 = 10 ∧ ¬ x1 = 13) :
    Con l Z (⟨"com/example/exact_gate/exactgate/Names", "requireOneLine", "(Ljava/lang/String;Ljava/lang/String;)Ljava/lang/String;"⟩ : MethodName) prog_2_method_6_code 2 (some (.object "java/lang/String")) [] ({ frames := 4, cells := 0, slots := 0, locals := 59 } : Room) #[(.ref a), (.ref nm)] h0 (Q_req2_0 Z a nm t k x0 x1 h0) := by
  refine Con.walk (plainFor_of_name pn_5) ?_
  intro p e s m below meth c T0 X0 hx hZ hby hml hown hnm hret hlk e0
  obtain ⟨hw, ⟨cz, S_CS, hcz⟩, ⟨sf, S_SF, hsf⟩, S_AD, S_HI, S_LO⟩ := id hD
  have N0 := Fr.nil Z.heap.size
  refine OEnds.cast (ef_req2_0 m a nm) ?_
  refine OEnds.st (S' := T0.setTop (mkF m 3 #[vr a, vr nm] [(.int 10), (.ref a)])) (fun _ k => ?_) ?_
  · refine XS.aloadN X0.here hx rfl (hb hby d_prog_2_6_0) rfl rfl ?_
    refine XS.bipush X0.here hx rfl (hb hby d_prog_2_6_1) ?_
    exact k
  obtain ⟨_, T1, h1, L1, X1, e1, hQ1, st1⟩ := virtC X0 hx hZ (y := (⟨"java/lang/String", "indexOf", "(I)I"⟩ : MethodName)) (z := (⟨"java/lang/String", "indexOf", "(I)I"⟩ : MethodName)) hown (wq hw 42 rfl) (wq hw 43 rfl) (nf_sel (args := #[]) (mvT hZ (wq hw 45 rfl)) rfl) (wq hw 45 rfl) (wq hw 44 rfl) (by decide) (kc := 0) (ks := 0) (Con.sb (W := 0) (rm_io1_2_0 l hD a (10 : Int32) t k x0 x1 O0 E_a F_coder_a F_value_a V_t hx0 hx1 hl0 hl1 hb0.1 hb1.1 ⟨by decide, by decide⟩) hZ (wq hw 46 rfl) (wq hw 8 rfl) (by decide) (by decide)) e0 E_a (g := (mkF m 3 #[vr a, vr nm] [(.int 10), (.ref a)])) rfl (by rw [hml]; rfl) (argsL := [(.int 10)]) (rest := []) (lenOf pd_1 rfl) rfl (by show 2 * 0 + _ ≤ _; exact Nat.le_of_eq rfl) (hb hby d_prog_2_6_3) (by decide) (by decide)
  obtain ⟨rfl, Nq1, Hq1⟩ := hQ1
  refine OEnds.st st1 ?_
  replace N0 := Fr.app N0 Nq1
  replace e1 := e1.trans Hq1
  refine OEnds.st (S' := T1.setTop (mkF m 12 #[vr a, vr nm] [(.int 13), (.ref a)])) (fun _ k => ?_) ?_
  · refine XS.ifNo X1.here hx rfl (hb hby d_prog_2_6_6) rfl ((if0 _ _).trans (tlt (by decide)).2.1) ?_
    refine XS.aloadN X1.here hx rfl (hb hby d_prog_2_6_9) rfl rfl ?_
    refine XS.bipush X1.here hx rfl (hb hby d_prog_2_6_10) ?_
    exact k
  obtain ⟨_, T2, h2, L2, X2, e2, hQ2, st2⟩ := virtC X1 hx hZ (y := (⟨"java/lang/String", "indexOf", "(I)I"⟩ : MethodName)) (z := (⟨"java/lang/String", "indexOf", "(I)I"⟩ : MethodName)) hown (wq hw 42 rfl) (wq hw 43 rfl) (nf_sel (args := #[]) (mvT hZ (wq hw 45 rfl)) rfl) (wq hw 45 rfl) (wq hw 44 rfl) (by decide) (kc := 0) (ks := 0) (Con.sb (W := 0) (rm_io1_2_0 l hD a (13 : Int32) t k x0 x1 O0 E_a F_coder_a F_value_a V_t hx0 hx1 hl0 hl1 hb0.2 hb1.2 ⟨by decide, by decide⟩) hZ (wq hw 46 rfl) (wq hw 8 rfl) (by decide) (by decide)) e1 E_a (g := (mkF m 12 #[vr a, vr nm] [(.int 13), (.ref a)])) rfl (by rw [hml]; rfl) (argsL := [(.int 13)]) (rest := []) (lenOf pd_1 rfl) rfl (by show 2 * 0 + _ ≤ _; exact Nat.le_of_eq rfl) (hb hby d_prog_2_6_12) (by decide) (by decide)
  obtain ⟨rfl, Nq2, Hq2⟩ := hQ2
  refine OEnds.st st2 ?_
  replace N0 := Fr.app N0 Nq2
  replace e2 := e2.trans Hq2
  refine OEnds.st (S' := T2.setTop (mkF m 33 #[vr a, vr nm] [(.ref a)])) (fun _ k => ?_) ?_
  · refine XS.ifYes X2.here hx rfl (pc0 := 15) (pc' := 32) rfl (hb hby d_prog_2_6_15) rfl ((if0 _ _).trans (tlt (by decide)).1) (by decide) (by decide) ?_
    refine XS.aloadN X2.here hx rfl (hb hby d_prog_2_6_32) rfl rfl ?_
    exact k
  exact OEnds.ret X2 hx hret hlk rfl (Or.inr (Or.inr (Or.inr (Or.inr ⟨rfl, rfl, rfl⟩)))) (hb hby d_prog_2_6_33) (by decide) (by decide) (by rw [e2]; exact ⟨rfl, N0, rfl⟩)
-- java/lang/StringUTF16.indexOfCharUnsafe:([BIII)I
def Q_unsafe2 (Z : State) (t : Addr) (cc : Int32) (k : ClassId) (x0 x1 : Int32) (h0 : Heap) (v : Option Value) (h : Heap) (L : List Loc) : Prop := v = some (.int (-1)) ∧ Fr Z.heap.size L ∧ h = h0
theorem ef_unsafe2 (m : MethodId) (t : Addr) (cc : Int32) : entryFrame m #[(.ref t), (.int cc), (.int 0), (.int 2)] 5 = mkF m 0 #[vr t, vi cc, vi 0, vi 2, .unset] [] := by first | (simp [entryFrame, mkF, argsToLocals, Value.category, vi, vj, vr]; done) | rfl
set_option maxRecDepth 65536 in
set_option maxHeartbeats 40000000 in
theorem rm_unsafe2 (l : Launch) {Z : State} {a0 : Array Value} (hD : Wd Z a0) (t : Addr) (cc : Int32) (k : ClassId) (x0 x1 : Int32) {h0 : Heap} (O0 : Ext Z.heap h0) (V_t : Arv Z h0 t k .byte (4 : Int32) [(.int (x0.toInt8.toInt32)), (.int ((x0 >>> ((8 : Int32) &&& 31)).toInt8.toInt32)), (.int (x1.toInt8.toInt32)), (.int ((x1 >>> ((8 : Int32) &&& 31)).toInt8.toInt32))] (.int 0)) (hx0 : ¬ x0 < 0 ∧ ¬ (65535 : Int32) < x0) (hx1 : ¬ x1 < 0 ∧ ¬ (65535 : Int32) < x1) (hn0 : ¬ x0 = cc) (hn1 : ¬ x1 = cc) (hc : ¬ cc < 0 ∧ ¬ (127 : Int32) < cc) :
    Con l Z (⟨"java/lang/StringUTF16", "indexOfCharUnsafe", "([BIII)I"⟩ : MethodName) jdk_52_method_48_code 5 (some .int) [] ({ frames := 1, cells := 0, slots := 0, locals := 13 } : Room) #[(.ref t), (.int cc), (.int 0), (.int 2)] h0 (Q_unsafe2 Z t cc k x0 x1 h0) := by
  refine Con.walk (plainFor_of_name pn_4) ?_
  intro p e s m below meth c T0 X0 hx hZ hby hml hown hnm hret hlk e0
  obtain ⟨hw, ⟨cz, S_CS, hcz⟩, ⟨sf, S_SF, hsf⟩, S_AD, S_HI, S_LO⟩ := id hD
  have N0 := Fr.nil Z.heap.size
  refine OEnds.cast (ef_unsafe2 m t cc) ?_
  refine OEnds.st (S' := T0.setTop (mkF m 12 #[vr t, vi cc, vi 0, vi 2, vi 0] [(.int 0), (.ref t)])) (fun _ k => ?_) ?_
  · refine XS.iloadN X0.here hx rfl (hb hby d_jdk_52_48_0) rfl ?_
    refine XS.istore X0.here hx rfl (hb hby d_jdk_52_48_1) rfl (l' := #[vr t, vi cc, vi 0, vi 2, vi 0]) rfl ?_
    refine XS.iload X0.here hx rfl (hb hby d_jdk_52_48_3) rfl ?_
    refine XS.iloadN X0.here hx rfl (hb hby d_jdk_52_48_5) rfl ?_
    show Steps p.tables e below (T0.setTop (mkF m 6 #[vr t, vi cc, vi 0, vi 2, vi 0] [(.int 2), (.int 0)])) _
    refine XS.icmpNo X0.here hx rfl (hb hby d_jdk_52_48_6) rfl (tlt (by decide)).2.1 ?_
    refine XS.aloadN X0.here hx rfl (hb hby d_jdk_52_48_9) rfl rfl ?_
    refine XS.iload X0.here hx rfl (hb hby d_jdk_52_48_10) rfl ?_
    exact k
  obtain ⟨_, T1, h1, L1, X1, e1, hQ1, st1⟩ := callC X0 hx hZ hown (wq hw 101 rfl) (wq hw 102 rfl) (wq hw 22 rfl) (wq hw 103 rfl) (by decide) (kc := 0) (ks := 0) (Con.sb (W := 0) (rm_getC2_0 l hD t k x0 x1 O0 V_t hx0) hZ (wq hw 103 rfl) (wq hw 22 rfl) (by decide) (by decide)) e0 (g := (mkF m 12 #[vr t, vi cc, vi 0, vi 2, vi 0] [(.int 0), (.ref t)])) rfl (by rw [hml]; rfl) (argsL := [(.ref t), (.int 0)]) (rest := []) (lenOf pd_6 rfl) rfl (by show 2 * 0 + _ ≤ _; exact Nat.le_of_eq rfl) (hb hby d_jdk_52_48_12) (by decide) (by decide)
  obtain ⟨rfl, Nq1, Hq1⟩ := hQ1
  refine OEnds.st st1 ?_
  replace N0 := Fr.app N0 Nq1
  replace e1 := e1.trans Hq1
  refine OEnds.st (S' := T1.setTop (mkF m 22 #[vr t, vi cc, vi 0, vi 2, vi 0] [])) (fun _ k => ?_) ?_
  · refine XS.iloadN X1.here hx rfl (hb hby d_jdk_52_48_15) rfl ?_
    refine XS.icmpYes X1.here hx rfl (pc0 := 16) (pc' := 22) rfl (hb hby d_jdk_52_48_16) rfl (feq hn0).2 (by decide) (by decide) ?_
    exact k
  refine OEnds.st (S' := T1.setTop (mkF m 3 #[vr t, vi cc, vi 0, vi 2, vi 1] [])) (fun _ k => ?_) ?_
  · refine XS.iinc X1.here hx rfl (hb hby d_jdk_52_48_22) rfl (l' := #[vr t, vi cc, vi 0, vi 2, vi 1]) rfl ?_
    refine XS.goto X1.here hx rfl (pc0 := 25) (pc' := 3) rfl (hb hby d_jdk_52_48_25) (by decide) (by decide) ?_
    exact k
  refine OEnds.st (S' := T1.setTop (mkF m 12 #[vr t, vi cc, vi 0, vi 2, vi 1] [(.int 1), (.ref t)])) (fun _ k => ?_) ?_
  · refine XS.iload X1.here hx rfl (hb hby d_jdk_52_48_3) rfl ?_
    refine XS.iloadN X1.here hx rfl (hb hby d_jdk_52_48_5) rfl ?_
    refine XS.icmpNo X1.here hx rfl (hb hby d_jdk_52_48_6) rfl (tlt (by decide)).2.1 ?_
    refine XS.aloadN X1.here hx rfl (hb hby d_jdk_52_48_9) rfl rfl ?_
    show Steps p.tables e below (T1.setTop (mkF m 10 #[vr t, vi cc, vi 0, vi 2, vi 1] [(.ref t)])) _
    refine XS.iload X1.here hx rfl (hb hby d_jdk_52_48_10) rfl ?_
    exact k
  obtain ⟨_, T2, h2, L2, X2, e2, hQ2, st2⟩ := callC X1 hx hZ hown (wq hw 101 rfl) (wq hw 102 rfl) (wq hw 22 rfl) (wq hw 103 rfl) (by decide) (kc := 0) (ks := 0) (Con.sb (W := 0) (rm_getC2_1 l hD t k x0 x1 O0 V_t hx1) hZ (wq hw 103 rfl) (wq hw 22 rfl) (by decide) (by decide)) e1 (g := (mkF m 12 #[vr t, vi cc, vi 0, vi 2, vi 1] [(.int 1), (.ref t)])) rfl (by rw [hml]; rfl) (argsL := [(.ref t), (.int 1)]) (rest := []) (lenOf pd_6 rfl) rfl (by show 2 * 0 + _ ≤ _; exact Nat.le_of_eq rfl) (hb hby d_jdk_52_48_12) (by decide) (by decide)
  obtain ⟨rfl, Nq2, Hq2⟩ := hQ2
  refine OEnds.st st2 ?_
  replace N0 := Fr.app N0 Nq2
  replace e2 := e2.trans Hq2
  refine OEnds.st (S' := T2.setTop (mkF m 22 #[vr t, vi cc, vi 0, vi 2, vi 1] [])) (fun _ k => ?_) ?_
  · refine XS.iloadN X2.here hx rfl (hb hby d_jdk_52_48_15) rfl ?_
    refine XS.icmpYes X2.here hx rfl (pc0 := 16) (pc' := 22) rfl (hb hby d_jdk_52_48_16) rfl (feq hn1).2 (by decide) (by decide) ?_
    exact k
  refine OEnds.st (S' := T2.setTop (mkF m 3 #[vr t, vi cc, vi 0, vi 2, vi 2] [])) (fun _ k => ?_) ?_
  · refine XS.iinc X2.here hx rfl (hb hby d_jdk_52_48_22) rfl (l' := #[vr t, vi cc, vi 0, vi 2, vi 2]) rfl ?_
    refine XS.goto X2.here hx rfl (pc0 := 25) (pc' := 3) rfl (hb hby d_jdk_52_48_25) (by decide) (by decide) ?_
    exact k
  refine OEnds.st (S' := T2.setTop (mkF m 29 #[vr t, vi cc, vi 0, vi 2, vi 2] [(.int (-1))])) (fun _ k => ?_) ?_
  · refine XS.iload X2.here hx rfl (hb hby d_jdk_52_48_3) rfl ?_
    refine XS.iloadN X2.here hx rfl (hb hby d_jdk_52_48_5) rfl ?_
    refine XS.icmpYes X2.here hx rfl (pc0 := 6) (pc' := 28) rfl (hb hby d_jdk_52_48_6) rfl (flt (by decide)).2.1 (by decide) (by decide) ?_
    refine XS.iconst X2.here hx rfl (hb hby d_jdk_52_48_28) ?_
    exact k
  exact OEnds.ret X2 hx hret hlk rfl (Or.inl ⟨rfl, by simp, _, rfl⟩) (hb hby d_jdk_52_48_29) (by decide) (by decide) (by rw [e2]; exact ⟨rfl, N0, rfl⟩)
-- java/lang/StringUTF16.length:([B)I
def Q_ulen2 (Z : State) (t : Addr) (k : ClassId) (x0 x1 : Int32) (h0 : Heap) (v : Option Value) (h : Heap) (L : List Loc) : Prop := v = some (.int 2) ∧ Fr Z.heap.size L ∧ h = h0
theorem ef_ulen2 (m : MethodId) (t : Addr) : entryFrame m #[(.ref t)] 1 = mkF m 0 #[vr t] [] := by first | (simp [entryFrame, mkF, argsToLocals, Value.category, vi, vj, vr]; done) | rfl
set_option maxRecDepth 65536 in
set_option maxHeartbeats 40000000 in
theorem rm_ulen2 (l : Launch) {Z : State} {a0 : Array Value} (hD : Wd Z a0) (t : Addr) (k : ClassId) (x0 x1 : Int32) {h0 : Heap} (O0 : Ext Z.heap h0) (V_t : Arv Z h0 t k .byte (4 : Int32) [(.int (x0.toInt8.toInt32)), (.int ((x0 >>> ((8 : Int32) &&& 31)).toInt8.toInt32)), (.int (x1.toInt8.toInt32)), (.int ((x1 >>> ((8 : Int32) &&& 31)).toInt8.toInt32))] (.int 0)) :
    Con l Z (⟨"java/lang/StringUTF16", "length", "([B)I"⟩ : MethodName) jdk_52_method_6_code 1 (some .int) [] ({ frames := 0, cells := 0, slots := 0, locals := 0 } : Room) #[(.ref t)] h0 (Q_ulen2 Z t k x0 x1 h0) := by
  refine Con.walk (plainFor_of_name pn_4) ?_
  intro p e s m below meth c T0 X0 hx hZ hby hml hown hnm hret hlk e0
  obtain ⟨hw, ⟨cz, S_CS, hcz⟩, ⟨sf, S_SF, hsf⟩, S_AD, S_HI, S_LO⟩ := id hD
  have N0 := Fr.nil Z.heap.size
  refine OEnds.cast (ef_ulen2 m t) ?_
  refine OEnds.st (S' := T0.setTop (mkF m 1 #[vr t] [(.ref t)])) (fun _ k => ?_) ?_
  · refine XS.aloadN X0.here hx rfl (hb hby d_jdk_52_6_0) rfl rfl ?_
    exact k
  obtain ⟨cl_t_1, Ar_t_1, q_t_1, S_t_1, N_t_1, H_t_1, G_t_1⟩ := id V_t
  refine OEnds.st (S' := T0.setTop (mkF m 2 #[vr t] [(.int 4)])) (fun tg kq9 => X0.arraylength hx (by rw [e0]; exact Ar_t_1.1) (State.isArrayOf_alike hZ.alike Ar_t_1.2.1) (g := (mkF m 1 #[vr t] [(.ref t)])) rfl rfl (hb hby d_jdk_52_6_1) tg (by rw [len_of S_t_1 N_t_1]; exact kq9)) ?_
  refine OEnds.st (S' := T0.setTop (mkF m 4 #[vr t] [(.int 2)])) (fun _ k => ?_) ?_
  · refine XS.iconst X0.here hx rfl (hb hby d_jdk_52_6_2) ?_
    refine XS.ishr X0.here hx rfl (hb hby d_jdk_52_6_3) rfl ?_
    exact k
  exact OEnds.ret X0 hx hret hlk rfl (Or.inl ⟨rfl, by simp, _, rfl⟩) (hb hby d_jdk_52_6_4) (by decide) (by decide) (by rw [e0]; exact ⟨rfl, N0, rfl⟩)
-- java/lang/StringUTF16.checkBoundsBeginEnd:(II[B)V
def Q_ucb2 (Z : State) (t : Addr) (k : ClassId) (x0 x1 : Int32) (h0 : Heap) (v : Option Value) (h : Heap) (L : List Loc) : Prop := v = none ∧ Fr Z.heap.size L ∧ h = h0
theorem ef_ucb2 (m : MethodId) (t : Addr) : entryFrame m #[(.int 0), (.int 2), (.ref t)] 3 = mkF m 0 #[vi 0, vi 2, vr t] [] := by first | (simp [entryFrame, mkF, argsToLocals, Value.category, vi, vj, vr]; done) | rfl
set_option maxRecDepth 65536 in
set_option maxHeartbeats 40000000 in
theorem rm_ucb2 (l : Launch) {Z : State} {a0 : Array Value} (hD : Wd Z a0) (t : Addr) (k : ClassId) (x0 x1 : Int32) {h0 : Heap} (O0 : Ext Z.heap h0) (V_t : Arv Z h0 t k .byte (4 : Int32) [(.int (x0.toInt8.toInt32)), (.int ((x0 >>> ((8 : Int32) &&& 31)).toInt8.toInt32)), (.int (x1.toInt8.toInt32)), (.int ((x1 >>> ((8 : Int32) &&& 31)).toInt8.toInt32))] (.int 0)) :
    Con l Z (⟨"java/lang/StringUTF16", "checkBoundsBeginEnd", "(II[B)V"⟩ : MethodName) jdk_52_method_93_code 3 none [] ({ frames := 2, cells := 0, slots := 0, locals := 29 } : Room) #[(.int 0), (.int 2), (.ref t)] h0 (Q_ucb2 Z t k x0 x1 h0) := by
  refine Con.walk (plainFor_of_name pn_4) ?_
  intro p e s m below meth c T0 X0 hx hZ hby hml hown hnm hret hlk e0
  obtain ⟨hw, ⟨cz, S_CS, hcz⟩, ⟨sf, S_SF, hsf⟩, S_AD, S_HI, S_LO⟩ := id hD
  have N0 := Fr.nil Z.heap.size
  refine OEnds.cast (ef_ucb2 m t) ?_
  refine OEnds.st (S' := T0.setTop (mkF m 3 #[vi 0, vi 2, vr t] [(.ref t), (.int 2), (.int 0)])) (fun _ k => ?_) ?_
  · refine XS.iloadN X0.here hx rfl (hb hby d_jdk_52_93_0) rfl ?_
    refine XS.iloadN X0.here hx rfl (hb hby d_jdk_52_93_1) rfl ?_
    refine XS.aloadN X0.here hx rfl (hb hby d_jdk_52_93_2) rfl rfl ?_
    exact k
  obtain ⟨_, T1, h1, L1, X1, e1, hQ1, st1⟩ := callC X0 hx hZ hown (wq hw 116 rfl) (wq hw 117 rfl) (wq hw 22 rfl) (wq hw 118 rfl) (by decide) (kc := 0) (ks := 0) (Con.sb (W := 2) (rm_ulen2 l hD t k x0 x1 O0 V_t) hZ (wq hw 118 rfl) (wq hw 22 rfl) (by decide) (by decide)) e0 (g := (mkF m 3 #[vi 0, vi 2, vr t] [(.ref t), (.int 2), (.int 0)])) rfl (by rw [hml]; rfl) (argsL := [(.ref t)]) (rest := [(.int 2), (.int 0)]) (lenOf pd_15 rfl) rfl (by show 2 * 0 + _ ≤ _; exact Nat.le_of_eq rfl) (hb hby d_jdk_52_93_3) (by decide) (by decide)
  obtain ⟨rfl, Nq1, Hq1⟩ := hQ1
  refine OEnds.st st1 ?_
  replace N0 := Fr.app N0 Nq1
  replace e1 := e1.trans Hq1
  obtain ⟨_, T2, h2, L2, X2, e2, hQ2, st2⟩ := callC X1 hx hZ hown (wq hw 119 rfl) (wq hw 120 rfl) (wq hw 8 rfl) (wq hw 121 rfl) (by decide) (kc := 0) (ks := 0) (Con.sb (W := 0) (rm_chkBE2 l hD  O0) hZ (wq hw 121 rfl) (wq hw 8 rfl) (by decide) (by decide)) e1 (g := (mkF m 6 #[vi 0, vi 2, vr t] [(.int 2), (.int 2), (.int 0)])) rfl (by rw [hml]; rfl) (argsL := [(.int 0), (.int 2), (.int 2)]) (rest := []) (lenOf pd_16 rfl) rfl (by show 2 * 0 + _ ≤ _; exact Nat.le_of_eq rfl) (hb hby d_jdk_52_93_6) (by decide) (by decide)
  obtain ⟨rfl, Nq2, Hq2⟩ := hQ2
  refine OEnds.st st2 ?_
  replace N0 := Fr.app N0 Nq2
  replace e2 := e2.trans Hq2
  exact OEnds.retV X2 hx hret hlk (hb hby d_jdk_52_93_9) (by decide) (by decide) (by rw [e2]; exact ⟨rfl, N0, rfl⟩)
-- java/lang/StringUTF16.indexOfChar:([BIII)I
def Q_uic2 (Z : State) (t : Addr) (cc : Int32) (k : ClassId) (x0 x1 : Int32) (h0 : Heap) (v : Option Value) (h : Heap) (L : List Loc) : Prop := v = some (.int (-1)) ∧ Fr Z.heap.size L ∧ h = h0
theorem ef_uic2 (m : MethodId) (t : Addr) (cc : Int32) : entryFrame m #[(.ref t), (.int cc), (.int 0), (.int 2)] 4 = mkF m 0 #[vr t, vi cc, vi 0, vi 2] [] := by first | (simp [entryFrame, mkF, argsToLocals, Value.category, vi, vj, vr]; done) | rfl
set_option maxRecDepth 65536 in
set_option maxHeartbeats 40000000 in
theorem rm_uic2 (l : Launch) {Z : State} {a0 : Array Value} (hD : Wd Z a0) (t : Addr) (cc : Int32) (k : ClassId) (x0 x1 : Int32) {h0 : Heap} (O0 : Ext Z.heap h0) (V_t : Arv Z h0 t k .byte (4 : Int32) [(.int (x0.toInt8.toInt32)), (.int ((x0 >>> ((8 : Int32) &&& 31)).toInt8.toInt32)), (.int (x1.toInt8.toInt32)), (.int ((x1 >>> ((8 : Int32) &&& 31)).toInt8.toInt32))] (.int 0)) (hx0 : ¬ x0 < 0 ∧ ¬ (65535 : Int32) < x0) (hx1 : ¬ x1 < 0 ∧ ¬ (65535 : Int32) < x1) (hn0 : ¬ x0 = cc) (hn1 : ¬ x1 = cc) (hc : ¬ cc < 0 ∧ ¬ (127 : Int32) < cc) :
    Con l Z (⟨"java/lang/StringUTF16", "indexOfChar", "([BIII)I"⟩ : MethodName) jdk_52_method_47_code 4 (some .int) [] ({ frames := 3, cells := 0, slots := 0, locals := 43 } : Room) #[(.ref t), (.int cc), (.int 0), (.int 2)] h0 (Q_uic2 Z t cc k x0 x1 h0) := by
  refine Con.walk (plainFor_of_name pn_4) ?_
  intro p e s m below meth c T0 X0 hx hZ hby hml hown hnm hret hlk e0
  obtain ⟨hw, ⟨cz, S_CS, hcz⟩, ⟨sf, S_SF, hsf⟩, S_AD, S_HI, S_LO⟩ := id hD
  have N0 := Fr.nil Z.heap.size
  refine OEnds.cast (ef_uic2 m t cc) ?_
  refine OEnds.st (S' := T0.setTop (mkF m 3 #[vr t, vi cc, vi 0, vi 2] [(.ref t), (.int 2), (.int 0)])) (fun _ k => ?_) ?_
  · refine XS.iloadN X0.here hx rfl (hb hby d_jdk_52_47_0) rfl ?_
    refine XS.iloadN X0.here hx rfl (hb hby d_jdk_52_47_1) rfl ?_
    refine XS.aloadN X0.here hx rfl (hb hby d_jdk_52_47_2) rfl rfl ?_
    exact k
  obtain ⟨_, T1, h1, L1, X1, e1, hQ1, st1⟩ := callC X0 hx hZ hown (wq hw 113 rfl) (wq hw 114 rfl) (wq hw 22 rfl) (wq hw 115 rfl) (by decide) (kc := 0) (ks := 0) (Con.sb (W := 0) (rm_ucb2 l hD t k x0 x1 O0 V_t) hZ (wq hw 115 rfl) (wq hw 22 rfl) (by decide) (by decide)) e0 (g := (mkF m 3 #[vr t, vi cc, vi 0, vi 2] [(.ref t), (.int 2), (.int 0)])) rfl (by rw [hml]; rfl) (argsL := [(.int 0), (.int 2), (.ref t)]) (rest := []) (lenOf pd_17 rfl) rfl (by show 2 * 0 + _ ≤ _; exact Nat.le_of_eq rfl) (hb hby d_jdk_52_47_3) (by decide) (by decide)
  obtain ⟨rfl, Nq1, Hq1⟩ := hQ1
  refine OEnds.st st1 ?_
  replace N0 := Fr.app N0 Nq1
  replace e1 := e1.trans Hq1
  refine OEnds.st (S' := T1.setTop (mkF m 10 #[vr t, vi cc, vi 0, vi 2] [(.int 2), (.int 0), (.int cc), (.ref t)])) (fun _ k => ?_) ?_
  · refine XS.aloadN X1.here hx rfl (hb hby d_jdk_52_47_6) rfl rfl ?_
    refine XS.iloadN X1.here hx rfl (hb hby d_jdk_52_47_7) rfl ?_
    refine XS.iloadN X1.here hx rfl (hb hby d_jdk_52_47_8) rfl ?_
    refine XS.iloadN X1.here hx rfl (hb hby d_jdk_52_47_9) rfl ?_
    exact k
  obtain ⟨_, T2, h2, L2, X2, e2, hQ2, st2⟩ := callC X1 hx hZ hown (wq hw 127 rfl) (wq hw 128 rfl) (wq hw 22 rfl) (wq hw 129 rfl) (by decide) (kc := 0) (ks := 0) (Con.sb (W := 0) (rm_unsafe2 l hD t cc k x0 x1 O0 V_t hx0 hx1 hn0 hn1 hc) hZ (wq hw 129 rfl) (wq hw 22 rfl) (by decide) (by decide)) e1 (g := (mkF m 10 #[vr t, vi cc, vi 0, vi 2] [(.int 2), (.int 0), (.int cc), (.ref t)])) rfl (by rw [hml]; rfl) (argsL := [(.ref t), (.int cc), (.int 0), (.int 2)]) (rest := []) (lenOf pd_14 rfl) rfl (by show 2 * 0 + _ ≤ _; exact Nat.le_of_eq rfl) (hb hby d_jdk_52_47_10) (by decide) (by decide)
  obtain ⟨rfl, Nq2, Hq2⟩ := hQ2
  refine OEnds.st st2 ?_
  replace N0 := Fr.app N0 Nq2
  replace e2 := e2.trans Hq2
  exact OEnds.ret X2 hx hret hlk rfl (Or.inl ⟨rfl, by simp, _, rfl⟩) (hb hby d_jdk_52_47_13) (by decide) (by decide) (by rw [e2]; exact ⟨rfl, N0, rfl⟩)
-- java/lang/StringUTF16.indexOf:([BIII)I
def Q_uio2 (Z : State) (t : Addr) (cc : Int32) (k : ClassId) (x0 x1 : Int32) (h0 : Heap) (v : Option Value) (h : Heap) (L : List Loc) : Prop := v = some (.int (-1)) ∧ Fr Z.heap.size L ∧ h = h0
theorem ef_uio2 (m : MethodId) (t : Addr) (cc : Int32) : entryFrame m #[(.ref t), (.int cc), (.int 0), (.int 2)] 4 = mkF m 0 #[vr t, vi cc, vi 0, vi 2] [] := by first | (simp [entryFrame, mkF, argsToLocals, Value.category, vi, vj, vr]; done) | rfl
set_option maxRecDepth 65536 in
set_option maxHeartbeats 40000000 in
theorem rm_uio2 (l : Launch) {Z : State} {a0 : Array Value} (hD : Wd Z a0) (t : Addr) (cc : Int32) (k : ClassId) (x0 x1 : Int32) {h0 : Heap} (O0 : Ext Z.heap h0) (V_t : Arv Z h0 t k .byte (4 : Int32) [(.int (x0.toInt8.toInt32)), (.int ((x0 >>> ((8 : Int32) &&& 31)).toInt8.toInt32)), (.int (x1.toInt8.toInt32)), (.int ((x1 >>> ((8 : Int32) &&& 31)).toInt8.toInt32))] (.int 0)) (hx0 : ¬ x0 < 0 ∧ ¬ (65535 : Int32) < x0) (hx1 : ¬ x1 < 0 ∧ ¬ (65535 : Int32) < x1) (hn0 : ¬ x0 = cc) (hn1 : ¬ x1 = cc) (hc : ¬ cc < 0 ∧ ¬ (127 : Int32) < cc) :
    Con l Z (⟨"java/lang/StringUTF16", "indexOf", "([BIII)I"⟩ : MethodName) jdk_52_method_40_code 4 (some .int) [] ({ frames := 4, cells := 0, slots := 0, locals := 58 } : Room) #[(.ref t), (.int cc), (.int 0), (.int 2)] h0 (Q_uio2 Z t cc k x0 x1 h0) := by
  refine Con.walk (plainFor_of_name pn_4) ?_
  intro p e s m below meth c T0 X0 hx hZ hby hml hown hnm hret hlk e0
  obtain ⟨hw, ⟨cz, S_CS, hcz⟩, ⟨sf, S_SF, hsf⟩, S_AD, S_HI, S_LO⟩ := id hD
  have N0 := Fr.nil Z.heap.size
  refine OEnds.cast (ef_uio2 m t cc) ?_
  refine OEnds.st (S' := T0.setTop (mkF m 2 #[vr t, vi cc, vi 0, vi 2] [(.int 0), (.int 0)])) (fun _ k => ?_) ?_
  · refine XS.iloadN X0.here hx rfl (hb hby d_jdk_52_40_0) rfl ?_
    refine XS.iconst X0.here hx rfl (hb hby d_jdk_52_40_1) ?_
    exact k
  obtain ⟨_, T1, h1, L1, X1, e1, hQ1, st1⟩ := callC X0 hx hZ hown (wq hw 107 rfl) (wq hw 75 rfl) (wq hw 76 rfl) (wq hw 77 rfl) (by decide) (kc := 0) (ks := 0) (Con.sb (W := 0) (rm_max00 l hD  O0) hZ (wq hw 77 rfl) (wq hw 76 rfl) (by decide) (by decide)) e0 (g := (mkF m 2 #[vr t, vi cc, vi 0, vi 2] [(.int 0), (.int 0)])) rfl (by rw [hml]; rfl) (argsL := [(.int 0), (.int 0)]) (rest := []) (lenOf pd_10 rfl) rfl (by show 2 * 0 + _ ≤ _; exact Nat.le_of_eq rfl) (hb hby d_jdk_52_40_2) (by decide) (by decide)
  obtain ⟨rfl, Nq1, Hq1⟩ := hQ1
  refine OEnds.st st1 ?_
  replace N0 := Fr.app N0 Nq1
  replace e1 := e1.trans Hq1
  refine OEnds.st (S' := T1.setTop (mkF m 8 #[vr t, vi cc, vi 0, vi 2] [(.ref t), (.int 2)])) (fun _ k => ?_) ?_
  · refine XS.istoreN X1.here hx rfl (hb hby d_jdk_52_40_5) rfl (l' := #[vr t, vi cc, vi 0, vi 2]) rfl ?_
    refine XS.iloadN X1.here hx rfl (hb hby d_jdk_52_40_6) rfl ?_
    refine XS.aloadN X1.here hx rfl (hb hby d_jdk_52_40_7) rfl rfl ?_
    exact k
  obtain ⟨cl_t_2, Ar_t_2, q_t_2, S_t_2, N_t_2, H_t_2, G_t_2⟩ := id V_t
  refine OEnds.st (S' := T1.setTop (mkF m 9 #[vr t, vi cc, vi 0, vi 2] [(.int 4), (.int 2)])) (fun tg kq9 => X1.arraylength hx (by rw [e1]; exact Ar_t_2.1) (State.isArrayOf_alike hZ.alike Ar_t_2.2.1) (g := (mkF m 8 #[vr t, vi cc, vi 0, vi 2] [(.ref t), (.int 2)])) rfl rfl (hb hby d_jdk_52_40_8) tg (by rw [len_of S_t_2 N_t_2]; exact kq9)) ?_
  refine OEnds.st (S' := T1.setTop (mkF m 11 #[vr t, vi cc, vi 0, vi 2] [(.int 2), (.int 2)])) (fun _ k => ?_) ?_
  · refine XS.iconst X1.here hx rfl (hb hby d_jdk_52_40_9) ?_
    refine XS.ishr X1.here hx rfl (hb hby d_jdk_52_40_10) rfl ?_
    exact k
  obtain ⟨_, T3, h3, L3, X3, e3, hQ3, st3⟩ := callC X1 hx hZ hown (wq hw 108 rfl) (wq hw 79 rfl) (wq hw 76 rfl) (wq hw 80 rfl) (by decide) (kc := 0) (ks := 0) (Con.sb (W := 0) (rm_minSame l hD (2 : Int32) O0) hZ (wq hw 80 rfl) (wq hw 76 rfl) (by decide) (by decide)) e1 (g := (mkF m 11 #[vr t, vi cc, vi 0, vi 2] [(.int 2), (.int 2)])) rfl (by rw [hml]; rfl) (argsL := [(.int 2), (.int 2)]) (rest := []) (lenOf pd_10 rfl) rfl (by show 2 * 0 + _ ≤ _; exact Nat.le_of_eq rfl) (hb hby d_jdk_52_40_11) (by decide) (by decide)
  obtain ⟨rfl, Nq3, Hq3⟩ := hQ3
  refine OEnds.st st3 ?_
  replace N0 := Fr.app N0 Nq3
  replace e3 := e3.trans Hq3
  refine OEnds.st (S' := T3.setTop (mkF m 32 #[vr t, vi cc, vi 0, vi 2] [(.int 2), (.int 0), (.int cc), (.ref t)])) (fun _ k => ?_) ?_
  · refine XS.istoreN X3.here hx rfl (hb hby d_jdk_52_40_14) rfl (l' := #[vr t, vi cc, vi 0, vi 2]) rfl ?_
    refine XS.iloadN X3.here hx rfl (hb hby d_jdk_52_40_15) rfl ?_
    refine XS.iloadN X3.here hx rfl (hb hby d_jdk_52_40_16) rfl ?_
    refine XS.icmpYes X3.here hx rfl (pc0 := 17) (pc' := 22) rfl (hb hby d_jdk_52_40_17) rfl (tlt (by decide)).1 (by decide) (by decide) ?_
    show Steps p.tables e below (T3.setTop (mkF m 22 #[vr t, vi cc, vi 0, vi 2] [])) _
    refine XS.iloadN X3.here hx rfl (hb hby d_jdk_52_40_22) rfl ?_
    refine X3.ldcInt hx hown (mvT hZ (wq hw 109 rfl)) (g := (mkF m 23 #[vr t, vi cc, vi 0, vi 2] [(.int cc)])) rfl (hb hby d_jdk_52_40_23) _ ?_
    refine XS.icmpNo X3.here hx rfl (hb hby d_jdk_52_40_25) rfl (tlt (lt64k hc.2)).2.1 ?_
    refine XS.aloadN X3.here hx rfl (hb hby d_jdk_52_40_28) rfl rfl ?_
    show Steps p.tables e below (T3.setTop (mkF m 29 #[vr t, vi cc, vi 0, vi 2] [(.ref t)])) _
    refine XS.iloadN X3.here hx rfl (hb hby d_jdk_52_40_29) rfl ?_
    refine XS.iloadN X3.here hx rfl (hb hby d_jdk_52_40_30) rfl ?_
    refine XS.iloadN X3.here hx rfl (hb hby d_jdk_52_40_31) rfl ?_
    exact k
  obtain ⟨_, T4, h4, L4, X4, e4, hQ4, st4⟩ := callC X3 hx hZ hown (wq hw 110 rfl) (wq hw 111 rfl) (wq hw 22 rfl) (wq hw 112 rfl) (by decide) (kc := 0) (ks := 0) (Con.sb (W := 0) (rm_uic2 l hD t cc k x0 x1 O0 V_t hx0 hx1 hn0 hn1 hc) hZ (wq hw 112 rfl) (wq hw 22 rfl) (by decide) (by decide)) e3 (g := (mkF m 32 #[vr t, vi cc, vi 0, vi 2] [(.int 2), (.int 0), (.int cc), (.ref t)])) rfl (by rw [hml]; rfl) (argsL := [(.ref t), (.int cc), (.int 0), (.int 2)]) (rest := []) (lenOf pd_14 rfl) rfl (by show 2 * 0 + _ ≤ _; exact Nat.le_of_eq rfl) (hb hby d_jdk_52_40_32) (by decide) (by decide)
  obtain ⟨rfl, Nq4, Hq4⟩ := hQ4
  refine OEnds.st st4 ?_
  replace N0 := Fr.app N0 Nq4
  replace e4 := e4.trans Hq4
  exact OEnds.ret X4 hx hret hlk rfl (Or.inl ⟨rfl, by simp, _, rfl⟩) (hb hby d_jdk_52_40_35) (by decide) (by decide) (by rw [e4]; exact ⟨rfl, N0, rfl⟩)
-- java/lang/String.length:()I
def Q_sLen2_1 (Z : State) (a : Addr) (t : Addr) (k : ClassId) (x0 x1 : Int32) (h0 : Heap) (v : Option Value) (h : Heap) (L : List Loc) : Prop := v = some (.int 2) ∧ Fr Z.heap.size L ∧ h = h0
theorem ef_sLen2_1 (m : MethodId) (a : Addr) : entryFrame m #[(.ref a)] 1 = mkF m 0 #[vr a] [] := by first | (simp [entryFrame, mkF, argsToLocals, Value.category, vi, vj, vr]; done) | rfl
set_option maxRecDepth 65536 in
set_option maxHeartbeats 40000000 in
theorem rm_sLen2_1 (l : Launch) {Z : State} {a0 : Array Value} (hD : Wd Z a0) (a : Addr) (t : Addr) (k : ClassId) (x0 x1 : Int32) {h0 : Heap} (O0 : Ext Z.heap h0) (E_a : Exa Z h0 a "java/lang/String") (F_coder_a : Fld Z h0 a "java/lang/String" "coder" "B" (.int 1)) (F_value_a : Fld Z h0 a "java/lang/String" "value" "[B" (.ref t)) (V_t : Arv Z h0 t k .byte (4 : Int32) [(.int (x0.toInt8.toInt32)), (.int ((x0 >>> ((8 : Int32) &&& 31)).toInt8.toInt32)), (.int (x1.toInt8.toInt32)), (.int ((x1 >>> ((8 : Int32) &&& 31)).toInt8.toInt32))] (.int 0)) :
    Con l Z (⟨"java/lang/String", "length", "()I"⟩ : MethodName) jdk_42_method_54_code 1 (some .int) [] ({ frames := 1, cells := 0, slots := 0, locals := 13 } : Room) #[(.ref a)] h0 (Q_sLen2_1 Z a t k x0 x1 h0) := by
  refine Con.walk (plainFor_of_name pn_1) ?_
  intro p e s m below meth c T0 X0 hx hZ hby hml hown hnm hret hlk e0
  obtain ⟨hw, ⟨cz, S_CS, hcz⟩, ⟨sf, S_SF, hsf⟩, S_AD, S_HI, S_LO⟩ := id hD
  have N0 := Fr.nil Z.heap.size
  refine OEnds.cast (ef_sLen2_1 m a) ?_
  refine OEnds.st (S' := T0.setTop (mkF m 1 #[vr a] [(.ref a)])) (fun _ k => ?_) ?_
  · refine XS.aloadN X0.here hx rfl (hb hby d_jdk_42_54_0) rfl rfl ?_
    exact k
  obtain ⟨T1, X1, e1, st1⟩ := getF X0 hx hZ hown (host := "") (Or.inl (wq hw 33 rfl)) Via.refl e0 F_value_a (g := (mkF m 1 #[vr a] [(.ref a)])) rfl rfl (hb hby d_jdk_42_54_1)
  refine OEnds.st st1 ?_
  obtain ⟨cl_t_2, Ar_t_2, q_t_2, S_t_2, N_t_2, H_t_2, G_t_2⟩ := id V_t
  refine OEnds.st (S' := T1.setTop (mkF m 5 #[vr a] [(.int 4)])) (fun tg kq9 => X1.arraylength hx (by rw [e1]; exact Ar_t_2.1) (State.isArrayOf_alike hZ.alike Ar_t_2.2.1) (g := (mkF m 4 #[vr a] [(.ref t)])) rfl rfl (hb hby d_jdk_42_54_4) tg (by rw [len_of S_t_2 N_t_2]; exact kq9)) ?_
  refine OEnds.st (S' := T1.setTop (mkF m 6 #[vr a] [(.ref a), (.int 4)])) (fun _ k => ?_) ?_
  · refine XS.aloadN X1.here hx rfl (hb hby d_jdk_42_54_5) rfl rfl ?_
    exact k
  obtain ⟨_, T3, h3, L3, X3, e3, hQ3, st3⟩ := virtC X1 hx hZ (y := (⟨"java/lang/String", "coder", "()B"⟩ : MethodName)) (z := (⟨"java/lang/String", "coder", "()B"⟩ : MethodName)) hown (wq hw 62 rfl) (wq hw 63 rfl) (nf_sel (args := #[]) (mvT hZ (wq hw 45 rfl)) rfl) (wq hw 65 rfl) (wq hw 64 rfl) (by decide) (kc := 0) (ks := 0) (Con.sb (W := 1) (rm_coder1 l hD a O0 F_coder_a) hZ (wq hw 66 rfl) (wq hw 8 rfl) (by decide) (by decide)) e1 E_a (g := (mkF m 6 #[vr a] [(.ref a), (.int 4)])) rfl (by rw [hml]; rfl) (argsL := []) (rest := [(.int 4)]) (lenOf pd_11 rfl) rfl (by show 2 * 0 + _ ≤ _; exact Nat.le_of_eq rfl) (hb hby d_jdk_42_54_6) (by decide) (by decide)
  obtain ⟨rfl, Nq3, Hq3⟩ := hQ3
  refine OEnds.st st3 ?_
  replace N0 := Fr.app N0 Nq3
  replace e3 := e3.trans Hq3
  refine OEnds.st (S' := T3.setTop (mkF m 10 #[vr a] [(.int 2)])) (fun _ k => ?_) ?_
  · refine XS.ishr X3.here hx rfl (hb hby d_jdk_42_54_9) rfl ?_
    exact k
  exact OEnds.ret X3 hx hret hlk rfl (Or.inl ⟨rfl, by simp, _, rfl⟩) (hb hby d_jdk_42_54_10) (by decide) (by decide) (by rw [e3]; exact ⟨rfl, N0, rfl⟩)
-- java/lang/String.indexOf:(II)I
def Q_io2_2_1 (Z : State) (a : Addr) (cc : Int32) (t : Addr) (k : ClassId) (x0 x1 : Int32) (h0 : Heap) (v : Option Value) (h : Heap) (L : List Loc) : Prop := v = some (.int (-1)) ∧ Fr Z.heap.size L ∧ h = h0
theorem ef_io2_2_1 (m : MethodId) (a : Addr) (cc : Int32) : entryFrame m #[(.ref a), (.int cc), (.int 0)] 3 = mkF m 0 #[vr a, vi cc, vi 0] [] := by first | (simp [entryFrame, mkF, argsToLocals, Value.category, vi, vj, vr]; done) | rfl
set_option maxRecDepth 65536 in
set_option maxHeartbeats 40000000 in
theorem rm_io2_2_1 (l : Launch) {Z : State} {a0 : Array Value} (hD : Wd Z a0) (a : Addr) (cc : Int32) (t : Addr) (k : ClassId) (x0 x1 : Int32) {h0 : Heap} (O0 : Ext Z.heap h0) (E_a : Exa Z h0 a "java/lang/String") (F_coder_a : Fld Z h0 a "java/lang/String" "coder" "B" (.int 1)) (F_value_a : Fld Z h0 a "java/lang/String" "value" "[B" (.ref t)) (V_t : Arv Z h0 t k .byte (4 : Int32) [(.int (x0.toInt8.toInt32)), (.int ((x0 >>> ((8 : Int32) &&& 31)).toInt8.toInt32)), (.int (x1.toInt8.toInt32)), (.int ((x1 >>> ((8 : Int32) &&& 31)).toInt8.toInt32))] (.int 0)) (hx0 : ¬ x0 < 0 ∧ ¬ (65535 : Int32) < x0) (hx1 : ¬ x1 < 0 ∧ ¬ (65535 : Int32) < x1) (hn0 : ¬ x0 = cc) (hn1 : ¬ x1 = cc) (hc : ¬ cc < 0 ∧ ¬ (127 : Int32) < cc) :
    Con l Z (⟨"java/lang/String", "indexOf", "(II)I"⟩ : MethodName) jdk_42_method_80_code 3 (some .int) [] ({ frames := 5, cells := 0, slots := 0, locals := 73 } : Room) #[(.ref a), (.int cc), (.int 0)] h0 (Q_io2_2_1 Z a cc t k x0 x1 h0) := by
  refine Con.walk (plainFor_of_name pn_1) ?_
  intro p e s m below meth c T0 X0 hx hZ hby hml hown hnm hret hlk e0
  obtain ⟨hw, ⟨cz, S_CS, hcz⟩, ⟨sf, S_SF, hsf⟩, S_AD, S_HI, S_LO⟩ := id hD
  have N0 := Fr.nil Z.heap.size
  refine OEnds.cast (ef_io2_2_1 m a cc) ?_
  refine OEnds.st (S' := T0.setTop (mkF m 1 #[vr a, vi cc, vi 0] [(.ref a)])) (fun _ k => ?_) ?_
  · refine XS.aloadN X0.here hx rfl (hb hby d_jdk_42_80_0) rfl rfl ?_
    exact k
  obtain ⟨_, T1, h1, L1, X1, e1, hQ1, st1⟩ := virtC X0 hx hZ (y := (⟨"java/lang/String", "isLatin1", "()Z"⟩ : MethodName)) (z := (⟨"java/lang/String", "isLatin1", "()Z"⟩ : MethodName)) hown (wq hw 52 rfl) (wq hw 53 rfl) (nf_sel (args := #[]) (mvT hZ (wq hw 45 rfl)) rfl) (wq hw 55 rfl) (wq hw 54 rfl) (by decide) (kc := 0) (ks := 0) (Con.sb (W := 0) (rm_isLat1 l hD a O0 F_coder_a) hZ (wq hw 56 rfl) (wq hw 8 rfl) (by decide) (by decide)) e0 E_a (g := (mkF m 1 #[vr a, vi cc, vi 0] [(.ref a)])) rfl (by rw [hml]; rfl) (argsL := []) (rest := []) (lenOf pd_12 rfl) rfl (by show 2 * 0 + _ ≤ _; exact Nat.le_of_eq rfl) (hb hby d_jdk_42_80_1) (by decide) (by decide)
  obtain ⟨rfl, Nq1, Hq1⟩ := hQ1
  refine OEnds.st st1 ?_
  replace N0 := Fr.app N0 Nq1
  replace e1 := e1.trans Hq1
  refine OEnds.st (S' := T1.setTop (mkF m 24 #[vr a, vi cc, vi 0] [(.ref a)])) (fun _ k => ?_) ?_
  · refine XS.ifYes X1.here hx rfl (pc0 := 4) (pc' := 23) rfl (hb hby d_jdk_42_80_4) rfl ((if0 _ _).trans (teq (by decide)).1) (by decide) (by decide) ?_
    refine XS.aloadN X1.here hx rfl (hb hby d_jdk_42_80_23) rfl rfl ?_
    exact k
  obtain ⟨T2, X2, e2, st2⟩ := getF X1 hx hZ hown (host := "") (Or.inl (wq hw 33 rfl)) Via.refl e1 F_value_a (g := (mkF m 24 #[vr a, vi cc, vi 0] [(.ref a)])) rfl rfl (hb hby d_jdk_42_80_24)
  refine OEnds.st st2 ?_
  refine OEnds.st (S' := T2.setTop (mkF m 30 #[vr a, vi cc, vi 0] [(.ref a), (.int 0), (.int cc), (.ref t)])) (fun _ k => ?_) ?_
  · refine XS.iloadN X2.here hx rfl (hb hby d_jdk_42_80_27) rfl ?_
    refine XS.iloadN X2.here hx rfl (hb hby d_jdk_42_80_28) rfl ?_
    refine XS.aloadN X2.here hx rfl (hb hby d_jdk_42_80_29) rfl rfl ?_
    exact k
  obtain ⟨_, T3, h3, L3, X3, e3, hQ3, st3⟩ := virtC X2 hx hZ (y := (⟨"java/lang/String", "length", "()I"⟩ : MethodName)) (z := (⟨"java/lang/String", "length", "()I"⟩ : MethodName)) hown (wq hw 57 rfl) (wq hw 58 rfl) (nf_sel (args := #[]) (mvT hZ (wq hw 45 rfl)) rfl) (wq hw 60 rfl) (wq hw 59 rfl) (by decide) (kc := 0) (ks := 0) (Con.sb (W := 3) (rm_sLen2_1 l hD a t k x0 x1 O0 E_a F_coder_a F_value_a V_t) hZ (wq hw 61 rfl) (wq hw 8 rfl) (by decide) (by decide)) e2 E_a (g := (mkF m 30 #[vr a, vi cc, vi 0] [(.ref a), (.int 0), (.int cc), (.ref t)])) rfl (by rw [hml]; rfl) (argsL := []) (rest := [(.int 0), (.int cc), (.ref t)]) (lenOf pd_13 rfl) rfl (by show 2 * 0 + _ ≤ _; exact Nat.le_of_eq rfl) (hb hby d_jdk_42_80_30) (by decide) (by decide)
  obtain ⟨rfl, Nq3, Hq3⟩ := hQ3
  refine OEnds.st st3 ?_
  replace N0 := Fr.app N0 Nq3
  replace e3 := e3.trans Hq3
  obtain ⟨_, T4, h4, L4, X4, e4, hQ4, st4⟩ := callC X3 hx hZ hown (wq hw 104 rfl) (wq hw 105 rfl) (wq hw 22 rfl) (wq hw 106 rfl) (by decide) (kc := 0) (ks := 0) (Con.sb (W := 0) (rm_uio2 l hD t cc k x0 x1 O0 V_t hx0 hx1 hn0 hn1 hc) hZ (wq hw 106 rfl) (wq hw 22 rfl) (by decide) (by decide)) e3 (g := (mkF m 33 #[vr a, vi cc, vi 0] [(.int 2), (.int 0), (.int cc), (.ref t)])) rfl (by rw [hml]; rfl) (argsL := [(.ref t), (.int cc), (.int 0), (.int 2)]) (rest := []) (lenOf pd_14 rfl) rfl (by show 2 * 0 + _ ≤ _; exact Nat.le_of_eq rfl) (hb hby d_jdk_42_80_33) (by decide) (by decide)
  obtain ⟨rfl, Nq4, Hq4⟩ := hQ4
  refine OEnds.st st4 ?_
  replace N0 := Fr.app N0 Nq4
  replace e4 := e4.trans Hq4
  exact OEnds.ret X4 hx hret hlk rfl (Or.inl ⟨rfl, by simp, _, rfl⟩) (hb hby d_jdk_42_80_36) (by decide) (by decide) (by rw [e4]; exact ⟨rfl, N0, rfl⟩)
-- java/lang/String.indexOf:(I)I
def Q_io1_2_1 (Z : State) (a : Addr) (cc : Int32) (t : Addr) (k : ClassId) (x0 x1 : Int32) (h0 : Heap) (v : Option Value) (h : Heap) (L : List Loc) : Prop := v = some (.int (-1)) ∧ Fr Z.heap.size L ∧ h = h0
theorem ef_io1_2_1 (m : MethodId) (a : Addr) (cc : Int32) : entryFrame m #[(.ref a), (.int cc)] 2 = mkF m 0 #[vr a, vi cc] [] := by first | (simp [entryFrame, mkF, argsToLocals, Value.category, vi, vj, vr]; done) | rfl
set_option maxRecDepth 65536 in
set_option maxHeartbeats 40000000 in
theorem rm_io1_2_1 (l : Launch) {Z : State} {a0 : Array Value} (hD : Wd Z a0) (a : Addr) (cc : Int32) (t : Addr) (k : ClassId) (x0 x1 : Int32) {h0 : Heap} (O0 : Ext Z.heap h0) (E_a : Exa Z h0 a "java/lang/String") (F_coder_a : Fld Z h0 a "java/lang/String" "coder" "B" (.int 1)) (F_value_a : Fld Z h0 a "java/lang/String" "value" "[B" (.ref t)) (V_t : Arv Z h0 t k .byte (4 : Int32) [(.int (x0.toInt8.toInt32)), (.int ((x0 >>> ((8 : Int32) &&& 31)).toInt8.toInt32)), (.int (x1.toInt8.toInt32)), (.int ((x1 >>> ((8 : Int32) &&& 31)).toInt8.toInt32))] (.int 0)) (hx0 : ¬ x0 < 0 ∧ ¬ (65535 : Int32) < x0) (hx1 : ¬ x1 < 0 ∧ ¬ (65535 : Int32) < x1) (hn0 : ¬ x0 = cc) (hn1 : ¬ x1 = cc) (hc : ¬ cc < 0 ∧ ¬ (127 : Int32) < cc) :
    Con l Z (⟨"java/lang/String", "indexOf", "(I)I"⟩ : MethodName) jdk_42_method_79_code 2 (some .int) [] ({ frames := 6, cells := 0, slots := 0, locals := 87 } : Room) #[(.ref a), (.int cc)] h0 (Q_io1_2_1 Z a cc t k x0 x1 h0) := by
  refine Con.walk (plainFor_of_name pn_1) ?_
  intro p e s m below meth c T0 X0 hx hZ hby hml hown hnm hret hlk e0
  obtain ⟨hw, ⟨cz, S_CS, hcz⟩, ⟨sf, S_SF, hsf⟩, S_AD, S_HI, S_LO⟩ := id hD
  have N0 := Fr.nil Z.heap.size
  refine OEnds.cast (ef_io1_2_1 m a cc) ?_
  refine OEnds.st (S' := T0.setTop (mkF m 3 #[vr a, vi cc] [(.int 0), (.int cc), (.ref a)])) (fun _ k => ?_) ?_
  · refine XS.aloadN X0.here hx rfl (hb hby d_jdk_42_79_0) rfl rfl ?_
    refine XS.iloadN X0.here hx rfl (hb hby d_jdk_42_79_1) rfl ?_
    refine XS.iconst X0.here hx rfl (hb hby d_jdk_42_79_2) ?_
    exact k
  obtain ⟨_, T1, h1, L1, X1, e1, hQ1, st1⟩ := virtC X0 hx hZ (y := (⟨"java/lang/String", "indexOf", "(II)I"⟩ : MethodName)) (z := (⟨"java/lang/String", "indexOf", "(II)I"⟩ : MethodName)) hown (wq hw 47 rfl) (wq hw 48 rfl) (nf_sel (args := #[]) (mvT hZ (wq hw 45 rfl)) rfl) (wq hw 50 rfl) (wq hw 49 rfl) (by decide) (kc := 0) (ks := 0) (Con.sb (W := 0) (rm_io2_2_1 l hD a cc t k x0 x1 O0 E_a F_coder_a F_value_a V_t hx0 hx1 hn0 hn1 hc) hZ (wq hw 51 rfl) (wq hw 8 rfl) (by decide) (by decide)) e0 E_a (g := (mkF m 3 #[vr a, vi cc] [(.int 0), (.int cc), (.ref a)])) rfl (by rw [hml]; rfl) (argsL := [(.int cc), (.int 0)]) (rest := []) (lenOf pd_10 rfl) rfl (by show 2 * 0 + _ ≤ _; exact Nat.le_of_eq rfl) (hb hby d_jdk_42_79_3) (by decide) (by decide)
  obtain ⟨rfl, Nq1, Hq1⟩ := hQ1
  refine OEnds.st st1 ?_
  replace N0 := Fr.app N0 Nq1
  replace e1 := e1.trans Hq1
  exact OEnds.ret X1 hx hret hlk rfl (Or.inl ⟨rfl, by simp, _, rfl⟩) (hb hby d_jdk_42_79_6) (by decide) (by decide) (by rw [e1]; exact ⟨rfl, N0, rfl⟩)
-- com/example/exact_gate/exactgate/Names.requireOneLine:(Ljava/lang/String;Ljava/lang/String;)Ljava/lang/String;
def Q_req2_1 (Z : State) (a : Addr) (nm : Addr) (t : Addr) (k : ClassId) (x0 x1 : Int32) (h0 : Heap) (v : Option Value) (h : Heap) (L : List Loc) : Prop := v = some (.ref a) ∧ Fr Z.heap.size L ∧ h = h0
theorem ef_req2_1 (m : MethodId) (a : Addr) (nm : Addr) : entryFrame m #[(.ref a), (.ref nm)] 2 = mkF m 0 #[vr a, vr nm] [] := by first | (simp [entryFrame, mkF, argsToLocals, Value.category, vi, vj, vr]; done) | rfl
set_option maxRecDepth 65536 in
set_option maxHeartbeats 40000000 in
theorem rm_req2_1 (l : Launch) {Z : State} {a0 : Array Value} (hD : Wd Z a0) (a : Addr) (nm : Addr) (t : Addr) (k : ClassId) (x0 x1 : Int32) {h0 : Heap} (O0 : Ext Z.heap h0) (E_a : Exa Z h0 a "java/lang/String") (F_coder_a : Fld Z h0 a "java/lang/String" "coder" "B" (.int 1)) (F_value_a : Fld Z h0 a "java/lang/String" "value" "[B" (.ref t)) (V_t : Arv Z h0 t k .byte (4 : Int32) [(.int (x0.toInt8.toInt32)), (.int ((x0 >>> ((8 : Int32) &&& 31)).toInt8.toInt32)), (.int (x1.toInt8.toInt32)), (.int ((x1 >>> ((8 : Int32) &&& 31)).toInt8.toInt32))] (.int 0)) (hx0 : ¬ x0 < 0 ∧ ¬ (65535 : Int32) < x0) (hx1 : ¬ x1 < 0 ∧ ¬ (65535 : Int32) < x1) (hb0 : ¬ x0 = 10 ∧ ¬ x0 = 13) (hb1 : ¬ x1 = 10 ∧ ¬ x1 = 13) :
    Con l Z (⟨"com/example/exact_gate/exactgate/Names", "requireOneLine", "(Ljava/lang/String;Ljava/lang/String;)Ljava/lang/String;"⟩ : MethodName) prog_2_method_6_code 2 (some (.object "java/lang/String")) [] ({ frames := 7, cells := 0, slots := 0, locals := 100 } : Room) #[(.ref a), (.ref nm)] h0 (Q_req2_1 Z a nm t k x0 x1 h0) := by
  refine Con.walk (plainFor_of_name pn_5) ?_
  intro p e s m below meth c T0 X0 hx hZ hby hml hown hnm hret hlk e0
  obtain ⟨hw, ⟨cz, S_CS, hcz⟩, ⟨sf, S_SF, hsf⟩, S_AD, S_HI, S_LO⟩ := id hD
  have N0 := Fr.nil Z.heap.size
  refine OEnds.cast (ef_req2_1 m a nm) ?_
  refine OEnds.st (S' := T0.setTop (mkF m 3 #[vr a, vr nm] [(.int 10), (.ref a)])) (fun _ k => ?_) ?_
  · refine XS.aloadN X0.here hx rfl (hb hby d_prog_2_6_0) rfl rfl ?_
    refine XS.bipush X0.here hx rfl (hb hby d_prog_2_6_1) ?_
    exact k
  obtain ⟨_, T1, h1, L1, X1, e1, hQ1, st1⟩ := virtC X0 hx hZ (y := (⟨"java/lang/String", "indexOf", "(I)I"⟩ : MethodName)) (z := (⟨"java/lang/String", "indexOf", "(I)I"⟩ : MethodName)) hown (wq hw 42 rfl) (wq hw 43 rfl) (nf_sel (args := #[]) (mvT hZ (wq hw 45 rfl)) rfl) (wq hw 45 rfl) (wq hw 44 rfl) (by decide) (kc := 0) (ks := 0) (Con.sb (W := 0) (rm_io1_2_1 l hD a (10 : Int32) t k x0 x1 O0 E_a F_coder_a F_value_a V_t hx0 hx1 hb0.1 hb1.1 ⟨by decide, by decide⟩) hZ (wq hw 46 rfl) (wq hw 8 rfl) (by decide) (by decide)) e0 E_a (g := (mkF m 3 #[vr a, vr nm] [(.int 10), (.ref a)])) rfl (by rw [hml]; rfl) (argsL := [(.int 10)]) (rest := []) (lenOf pd_1 rfl) rfl (by show 2 * 0 + _ ≤ _; exact Nat.le_of_eq rfl) (hb hby d_prog_2_6_3) (by decide) (by decide)
  obtain ⟨rfl, Nq1, Hq1⟩ := hQ1
  refine OEnds.st st1 ?_
  replace N0 := Fr.app N0 Nq1
  replace e1 := e1.trans Hq1
  refine OEnds.st (S' := T1.setTop (mkF m 12 #[vr a, vr nm] [(.int 13), (.ref a)])) (fun _ k => ?_) ?_
  · refine XS.ifNo X1.here hx rfl (hb hby d_prog_2_6_6) rfl ((if0 _ _).trans (tlt (by decide)).2.1) ?_
    refine XS.aloadN X1.here hx rfl (hb hby d_prog_2_6_9) rfl rfl ?_
    refine XS.bipush X1.here hx rfl (hb hby d_prog_2_6_10) ?_
    exact k
  obtain ⟨_, T2, h2, L2, X2, e2, hQ2, st2⟩ := virtC X1 hx hZ (y := (⟨"java/lang/String", "indexOf", "(I)I"⟩ : MethodName)) (z := (⟨"java/lang/String", "indexOf", "(I)I"⟩ : MethodName)) hown (wq hw 42 rfl) (wq hw 43 rfl) (nf_sel (args := #[]) (mvT hZ (wq hw 45 rfl)) rfl) (wq hw 45 rfl) (wq hw 44 rfl) (by decide) (kc := 0) (ks := 0) (Con.sb (W := 0) (rm_io1_2_1 l hD a (13 : Int32) t k x0 x1 O0 E_a F_coder_a F_value_a V_t hx0 hx1 hb0.2 hb1.2 ⟨by decide, by decide⟩) hZ (wq hw 46 rfl) (wq hw 8 rfl) (by decide) (by decide)) e1 E_a (g := (mkF m 12 #[vr a, vr nm] [(.int 13), (.ref a)])) rfl (by rw [hml]; rfl) (argsL := [(.int 13)]) (rest := []) (lenOf pd_1 rfl) rfl (by show 2 * 0 + _ ≤ _; exact Nat.le_of_eq rfl) (hb hby d_prog_2_6_12) (by decide) (by decide)
  obtain ⟨rfl, Nq2, Hq2⟩ := hQ2
  refine OEnds.st st2 ?_
  replace N0 := Fr.app N0 Nq2
  replace e2 := e2.trans Hq2
  refine OEnds.st (S' := T2.setTop (mkF m 33 #[vr a, vr nm] [(.ref a)])) (fun _ k => ?_) ?_
  · refine XS.ifYes X2.here hx rfl (pc0 := 15) (pc' := 32) rfl (hb hby d_prog_2_6_15) rfl ((if0 _ _).trans (tlt (by decide)).1) (by decide) (by decide) ?_
    refine XS.aloadN X2.here hx rfl (hb hby d_prog_2_6_32) rfl rfl ?_
    exact k
  exact OEnds.ret X2 hx hret hlk rfl (Or.inr (Or.inr (Or.inr (Or.inr ⟨rfl, rfl, rfl⟩)))) (hb hby d_prog_2_6_33) (by decide) (by decide) (by rw [e2]; exact ⟨rfl, N0, rfl⟩)
-- java/lang/StringLatin1.indexOfChar:([BIII)I
def Q_ioc3 (Z : State) (t : Addr) (cc : Int32) (k : ClassId) (x0 x1 x2 : Int32) (h0 : Heap) (v : Option Value) (h : Heap) (L : List Loc) : Prop := v = some (.int (-1)) ∧ Fr Z.heap.size L ∧ h = h0
theorem ef_ioc3 (m : MethodId) (t : Addr) (cc : Int32) : entryFrame m #[(.ref t), (.int cc), (.int 0), (.int 3)] 6 = mkF m 0 #[vr t, vi cc, vi 0, vi 3, .unset, .unset] [] := by first | (simp [entryFrame, mkF, argsToLocals, Value.category, vi, vj, vr]; done) | rfl
set_option maxRecDepth 65536 in
set_option maxHeartbeats 40000000 in
theorem rm_ioc3 (l : Launch) {Z : State} {a0 : Array Value} (hD : Wd Z a0) (t : Addr) (cc : Int32) (k : ClassId) (x0 x1 x2 : Int32) {h0 : Heap} (O0 : Ext Z.heap h0) (V_t : Arv Z h0 t k .byte (3 : Int32) [(.int (x0.toInt8.toInt32)), (.int (x1.toInt8.toInt32)), (.int (x2.toInt8.toInt32))] (.int 0)) (hx0 : ¬ x0 < 0 ∧ ¬ (65535 : Int32) < x0) (hx1 : ¬ x1 < 0 ∧ ¬ (65535 : Int32) < x1) (hx2 : ¬ x2 < 0 ∧ ¬ (65535 : Int32) < x2) (hl0 : ¬ (255 : Int32) < x0) (hl1 : ¬ (255 : Int32) < x1) (hl2 : ¬ (255 : Int32) < x2) (hn0 : ¬ x0 = cc) (hn1 : ¬ x1 = cc) (hn2 : ¬ x2 = cc) (hc : ¬ cc < 0 ∧ ¬ (127 : Int32) < cc) :
    Con l Z (⟨"java/lang/StringLatin1", "indexOfChar", "([BIII)I"⟩ : MethodName) jdk_43_method_23_code 6 (some .int) [] ({ frames := 0, cells := 0, slots := 0, locals := 0 } : Room) #[(.ref t), (.int cc), (.int 0), (.int 3)] h0 (Q_ioc3 Z t cc k x0 x1 x2 h0) := by
  refine Con.walk (plainFor_of_name pn_2) ?_
  intro p e s m below meth c T0 X0 hx hZ hby hml hown hnm hret hlk e0
  obtain ⟨hw, ⟨cz, S_CS, hcz⟩, ⟨sf, S_SF, hsf⟩, S_AD, S_HI, S_LO⟩ := id hD
  have N0 := Fr.nil Z.heap.size
  refine OEnds.cast (ef_ioc3 m t cc) ?_
  refine OEnds.st (S' := T0.setTop (mkF m 16 #[vr t, vi cc, vi 0, vi 3, vi (cc.toInt8.toInt32), vi 0] [(.int 0), (.ref t)])) (fun _ k => ?_) ?_
  · refine XS.iloadN X0.here hx rfl (hb hby d_jdk_43_23_0) rfl ?_
    refine XS.i2b X0.here hx rfl (hb hby d_jdk_43_23_1) rfl ?_
    refine XS.istore X0.here hx rfl (hb hby d_jdk_43_23_2) rfl (l' := #[vr t, vi cc, vi 0, vi 3, vi (cc.toInt8.toInt32), .unset]) rfl ?_
    refine XS.iloadN X0.here hx rfl (hb hby d_jdk_43_23_4) rfl ?_
    show Steps p.tables e below (T0.setTop (mkF m 5 #[vr t, vi cc, vi 0, vi 3, vi (cc.toInt8.toInt32), .unset] [(.int 0)])) _
    refine XS.istore X0.here hx rfl (hb hby d_jdk_43_23_5) rfl (l' := #[vr t, vi cc, vi 0, vi 3, vi (cc.toInt8.toInt32), vi 0]) rfl ?_
    refine XS.iload X0.here hx rfl (hb hby d_jdk_43_23_7) rfl ?_
    refine XS.iloadN X0.here hx rfl (hb hby d_jdk_43_23_9) rfl ?_
    refine XS.icmpNo X0.here hx rfl (hb hby d_jdk_43_23_10) rfl (tlt (by decide)).2.1 ?_
    show Steps p.tables e below (T0.setTop (mkF m 13 #[vr t, vi cc, vi 0, vi 3, vi (cc.toInt8.toInt32), vi 0] [])) _
    refine XS.aloadN X0.here hx rfl (hb hby d_jdk_43_23_13) rfl rfl ?_
    refine XS.iload X0.here hx rfl (hb hby d_jdk_43_23_14) rfl ?_
    exact k
  obtain ⟨cl_t_1, Ar_t_1, q_t_1, S_t_1, N_t_1, H_t_1, G_t_1⟩ := id V_t
  refine OEnds.st (S' := T0.setTop (mkF m 17 #[vr t, vi cc, vi 0, vi 3, vi (cc.toInt8.toInt32), vi 0] [(.int (x0.toInt8.toInt32))])) (X0.baloadBytes hx (j := (0 : Int32)) (v := (.int (x0.toInt8.toInt32))) (by rw [e0]; exact Ar_t_1.1) (State.isArrayOf_alike hZ.alike Ar_t_1.2.1) Ar_t_1.2.2 (inb_of S_t_1 ⟨by decide, by decide⟩) (H_t_1.at (inb_of S_t_1 ⟨by decide, by decide⟩) rfl) (g := (mkF m 16 #[vr t, vi cc, vi 0, vi 3, vi (cc.toInt8.toInt32), vi 0] [(.int 0), (.ref t)])) rfl rfl (hb hby d_jdk_43_23_16)) ?_
  refine OEnds.st (S' := T0.setTop (mkF m 25 #[vr t, vi cc, vi 0, vi 3, vi (cc.toInt8.toInt32), vi 0] [])) (fun _ k => ?_) ?_
  · refine XS.iload X0.here hx rfl (hb hby d_jdk_43_23_17) rfl ?_
    refine XS.icmpYes X0.here hx rfl (pc0 := 19) (pc' := 25) rfl (hb hby d_jdk_43_23_19) rfl (feq (b8_ne (lt16 hx0 hl0) hc hn0)).2 (by decide) (by decide) ?_
    exact k
  refine OEnds.st (S' := T0.setTop (mkF m 7 #[vr t, vi cc, vi 0, vi 3, vi (cc.toInt8.toInt32), vi 1] [])) (fun _ k => ?_) ?_
  · refine XS.iinc X0.here hx rfl (hb hby d_jdk_43_23_25) rfl (l' := #[vr t, vi cc, vi 0, vi 3, vi (cc.toInt8.toInt32), vi 1]) rfl ?_
    refine XS.goto X0.here hx rfl (pc0 := 28) (pc' := 7) rfl (hb hby d_jdk_43_23_28) (by decide) (by decide) ?_
    exact k
  refine OEnds.st (S' := T0.setTop (mkF m 16 #[vr t, vi cc, vi 0, vi 3, vi (cc.toInt8.toInt32), vi 1] [(.int 1), (.ref t)])) (fun _ k => ?_) ?_
  · refine XS.iload X0.here hx rfl (hb hby d_jdk_43_23_7) rfl ?_
    refine XS.iloadN X0.here hx rfl (hb hby d_jdk_43_23_9) rfl ?_
    refine XS.icmpNo X0.here hx rfl (hb hby d_jdk_43_23_10) rfl (tlt (by decide)).2.1 ?_
    refine XS.aloadN X0.here hx rfl (hb hby d_jdk_43_23_13) rfl rfl ?_
    show Steps p.tables e below (T0.setTop (mkF m 14 #[vr t, vi cc, vi 0, vi 3, vi (cc.toInt8.toInt32), vi 1] [(.ref t)])) _
    refine XS.iload X0.here hx rfl (hb hby d_jdk_43_23_14) rfl ?_
    exact k
  obtain ⟨cl_t_2, Ar_t_2, q_t_2, S_t_2, N_t_2, H_t_2, G_t_2⟩ := id V_t
  refine OEnds.st (S' := T0.setTop (mkF m 17 #[vr t, vi cc, vi 0, vi 3, vi (cc.toInt8.toInt32), vi 1] [(.int (x1.toInt8.toInt32))])) (X0.baloadBytes hx (j := (1 : Int32)) (v := (.int (x1.toInt8.toInt32))) (by rw [e0]; exact Ar_t_2.1) (State.isArrayOf_alike hZ.alike Ar_t_2.2.1) Ar_t_2.2.2 (inb_of S_t_2 ⟨by decide, by decide⟩) (H_t_2.at (inb_of S_t_2 ⟨by decide, by decide⟩) rfl) (g := (mkF m 16 #[vr t, vi cc, vi 0, vi 3, vi (cc.toInt8.toInt32), vi 1] [(.int 1), (.ref t)])) rfl rfl (hb hby d_jdk_43_23_16)) ?_
  refine OEnds.st (S' := T0.setTop (mkF m 25 #[vr t, vi cc, vi 0, vi 3, vi (cc.toInt8.toInt32), vi 1] [])) (fun _ k => ?_) ?_
  · refine XS.iload X0.here hx rfl (hb hby d_jdk_43_23_17) rfl ?_
    refine XS.icmpYes X0.here hx rfl (pc0 := 19) (pc' := 25) rfl (hb hby d_jdk_43_23_19) rfl (feq (b8_ne (lt16 hx1 hl1) hc hn1)).2 (by decide) (by decide) ?_
    exact k
  refine OEnds.st (S' := T0.setTop (mkF m 7 #[vr t, vi cc, vi 0, vi 3, vi (cc.toInt8.toInt32), vi 2] [])) (fun _ k => ?_) ?_
  · refine XS.iinc X0.here hx rfl (hb hby d_jdk_43_23_25) rfl (l' := #[vr t, vi cc, vi 0, vi 3, vi (cc.toInt8.toInt32), vi 2]) rfl ?_
    refine XS.goto X0.here hx rfl (pc0 := 28) (pc' := 7) rfl (hb hby d_jdk_43_23_28) (by decide) (by decide) ?_
    exact k
  refine OEnds.st (S' := T0.setTop (mkF m 16 #[vr t, vi cc, vi 0, vi 3, vi (cc.toInt8.toInt32), vi 2] [(.int 2), (.ref t)])) (fun _ k => ?_) ?_
  · refine XS.iload X0.here hx rfl (hb hby d_jdk_43_23_7) rfl ?_
    refine XS.iloadN X0.here hx rfl (hb hby d_jdk_43_23_9) rfl ?_
    refine XS.icmpNo X0.here hx rfl (hb hby d_jdk_43_23_10) rfl (tlt (by decide)).2.1 ?_
    refine XS.aloadN X0.here hx rfl (hb hby d_jdk_43_23_13) rfl rfl ?_
    show Steps p.tables e below (T0.setTop (mkF m 14 #[vr t, vi cc, vi 0, vi 3, vi (cc.toInt8.toInt32), vi 2] [(.ref t)])) _
    refine XS.iload X0.here hx rfl (hb hby d_jdk_43_23_14) rfl ?_
    exact k
  obtain ⟨cl_t_3, Ar_t_3, q_t_3, S_t_3, N_t_3, H_t_3, G_t_3⟩ := id V_t
  refine OEnds.st (S' := T0.setTop (mkF m 17 #[vr t, vi cc, vi 0, vi 3, vi (cc.toInt8.toInt32), vi 2] [(.int (x2.toInt8.toInt32))])) (X0.baloadBytes hx (j := (2 : Int32)) (v := (.int (x2.toInt8.toInt32))) (by rw [e0]; exact Ar_t_3.1) (State.isArrayOf_alike hZ.alike Ar_t_3.2.1) Ar_t_3.2.2 (inb_of S_t_3 ⟨by decide, by decide⟩) (H_t_3.at (inb_of S_t_3 ⟨by decide, by decide⟩) rfl) (g := (mkF m 16 #[vr t, vi cc, vi 0, vi 3, vi (cc.toInt8.toInt32), vi 2] [(.int 2), (.ref t)])) rfl rfl (hb hby d_jdk_43_23_16)) ?_
  refine OEnds.st (S' := T0.setTop (mkF m 25 #[vr t, vi cc, vi 0, vi 3, vi (cc.toInt8.toInt32), vi 2] [])) (fun _ k => ?_) ?_
  · refine XS.iload X0.here hx rfl (hb hby d_jdk_43_23_17) rfl ?_
    refine XS.icmpYes X0.here hx rfl (pc0 := 19) (pc' := 25) rfl (hb hby d_jdk_43_23_19) rfl (feq (b8_ne (lt16 hx2 hl2) hc hn2)).2 (by decide) (by decide) ?_
    exact k
  refine OEnds.st (S' := T0.setTop (mkF m 7 #[vr t, vi cc, vi 0, vi 3, vi (cc.toInt8.toInt32), vi 3] [])) (fun _ k => ?_) ?_
  · refine XS.iinc X0.here hx rfl (hb hby d_jdk_43_23_25) rfl (l' := #[vr t, vi cc, vi 0, vi 3, vi (cc.toInt8.toInt32), vi 3]) rfl ?_
    refine XS.goto X0.here hx rfl (pc0 := 28) (pc' := 7) rfl (hb hby d_jdk_43_23_28) (by decide) (by decide) ?_
    exact k
  refine OEnds.st (S' := T0.setTop (mkF m 32 #[vr t, vi cc, vi 0, vi 3, vi (cc.toInt8.toInt32), vi 3] [(.int (-1))])) (fun _ k => ?_) ?_
  · refine XS.iload X0.here hx rfl (hb hby d_jdk_43_23_7) rfl ?_
    refine XS.iloadN X0.here hx rfl (hb hby d_jdk_43_23_9) rfl ?_
    refine XS.icmpYes X0.here hx rfl (pc0 := 10) (pc' := 31) rfl (hb hby d_jdk_43_23_10) rfl (flt (by decide)).2.1 (by decide) (by decide) ?_
    refine XS.iconst X0.here hx rfl (hb hby d_jdk_43_23_31) ?_
    exact k
  exact OEnds.ret X0 hx hret hlk rfl (Or.inl ⟨rfl, by simp, _, rfl⟩) (hb hby d_jdk_43_23_32) (by decide) (by decide) (by rw [e0]; exact ⟨rfl, N0, rfl⟩)
-- java/lang/StringLatin1.indexOf:([BIII)I
def Q_lio3 (Z : State) (t : Addr) (cc : Int32) (k : ClassId) (x0 x1 x2 : Int32) (h0 : Heap) (v : Option Value) (h : Heap) (L : List Loc) : Prop := v = some (.int (-1)) ∧ Fr Z.heap.size L ∧ h = h0
theorem ef_lio3 (m : MethodId) (t : Addr) (cc : Int32) : entryFrame m #[(.ref t), (.int cc), (.int 0), (.int 3)] 4 = mkF m 0 #[vr t, vi cc, vi 0, vi 3] [] := by first | (simp [entryFrame, mkF, argsToLocals, Value.category, vi, vj, vr]; done) | rfl
set_option maxRecDepth 65536 in
set_option maxHeartbeats 40000000 in
theorem rm_lio3 (l : Launch) {Z : State} {a0 : Array Value} (hD : Wd Z a0) (t : Addr) (cc : Int32) (k : ClassId) (x0 x1 x2 : Int32) {h0 : Heap} (O0 : Ext Z.heap h0) (V_t : Arv Z h0 t k .byte (3 : Int32) [(.int (x0.toInt8.toInt32)), (.int (x1.toInt8.toInt32)), (.int (x2.toInt8.toInt32))] (.int 0)) (hx0 : ¬ x0 < 0 ∧ ¬ (65535 : Int32) < x0) (hx1 : ¬ x1 < 0 ∧ ¬ (65535 : Int32) < x1) (hx2 : ¬ x2 < 0 ∧ ¬ (65535 : Int32) < x2) (hl0 : ¬ (255 : Int32) < x0) (hl1 : ¬ (255 : Int32) < x1) (hl2 : ¬ (255 : Int32) < x2) (hn0 : ¬ x0 = cc) (hn1 : ¬ x1 = cc) (hn2 : ¬ x2 = cc) (hc : ¬ cc < 0 ∧ ¬ (127 : Int32) < cc) :
    Con l Z (⟨"java/lang/StringLatin1", "indexOf", "([BIII)I"⟩ : MethodName) jdk_43_method_22_code 4 (some .int) [] ({ frames := 1, cells := 0, slots := 0, locals := 17 } : Room) #[(.ref t), (.int cc), (.int 0), (.int 3)] h0 (Q_lio3 Z t cc k x0 x1 x2 h0) := by
  refine Con.walk (plainFor_of_name pn_2) ?_
  intro p e s m below meth c T0 X0 hx hZ hby hml hown hnm hret hlk e0
  obtain ⟨hw, ⟨cz, S_CS, hcz⟩, ⟨sf, S_SF, hsf⟩, S_AD, S_HI, S_LO⟩ := id hD
  have N0 := Fr.nil Z.heap.size
  refine OEnds.cast (ef_lio3 m t cc) ?_
  refine OEnds.st (S' := T0.setTop (mkF m 1 #[vr t, vi cc, vi 0, vi 3] [(.int cc)])) (fun _ k => ?_) ?_
  · refine XS.iloadN X0.here hx rfl (hb hby d_jdk_43_22_0) rfl ?_
    exact k
  obtain ⟨_, T1, h1, L1, X1, e1, hQ1, st1⟩ := callC X0 hx hZ hown (wq hw 71 rfl) (wq hw 72 rfl) (wq hw 69 rfl) (wq hw 73 rfl) (by decide) (kc := 0) (ks := 0) (Con.sb (W := 0) (rm_canEnc l hD cc O0 hc) hZ (wq hw 73 rfl) (wq hw 69 rfl) (by decide) (by decide)) e0 (g := (mkF m 1 #[vr t, vi cc, vi 0, vi 3] [(.int cc)])) rfl (by rw [hml]; rfl) (argsL := [(.int cc)]) (rest := []) (lenOf pd_9 rfl) rfl (by show 2 * 0 + _ ≤ _; exact Nat.le_of_eq rfl) (hb hby d_jdk_43_22_1) (by decide) (by decide)
  obtain ⟨rfl, Nq1, Hq1⟩ := hQ1
  refine OEnds.st st1 ?_
  replace N0 := Fr.app N0 Nq1
  replace e1 := e1.trans Hq1
  refine OEnds.st (S' := T1.setTop (mkF m 11 #[vr t, vi cc, vi 0, vi 3] [(.int 0), (.int 0)])) (fun _ k => ?_) ?_
  · refine XS.ifYes X1.here hx rfl (pc0 := 4) (pc' := 9) rfl (hb hby d_jdk_43_22_4) rfl ((if0 _ _).trans (feq (by decide)).2) (by decide) (by decide) ?_
    refine XS.iloadN X1.here hx rfl (hb hby d_jdk_43_22_9) rfl ?_
    refine XS.iconst X1.here hx rfl (hb hby d_jdk_43_22_10) ?_
    exact k
  obtain ⟨_, T2, h2, L2, X2, e2, hQ2, st2⟩ := callC X1 hx hZ hown (wq hw 74 rfl) (wq hw 75 rfl) (wq hw 76 rfl) (wq hw 77 rfl) (by decide) (kc := 0) (ks := 0) (Con.sb (W := 0) (rm_max00 l hD  O0) hZ (wq hw 77 rfl) (wq hw 76 rfl) (by decide) (by decide)) e1 (g := (mkF m 11 #[vr t, vi cc, vi 0, vi 3] [(.int 0), (.int 0)])) rfl (by rw [hml]; rfl) (argsL := [(.int 0), (.int 0)]) (rest := []) (lenOf pd_10 rfl) rfl (by show 2 * 0 + _ ≤ _; exact Nat.le_of_eq rfl) (hb hby d_jdk_43_22_11) (by decide) (by decide)
  obtain ⟨rfl, Nq2, Hq2⟩ := hQ2
  refine OEnds.st st2 ?_
  replace N0 := Fr.app N0 Nq2
  replace e2 := e2.trans Hq2
  refine OEnds.st (S' := T2.setTop (mkF m 17 #[vr t, vi cc, vi 0, vi 3] [(.ref t), (.int 3)])) (fun _ k => ?_) ?_
  · refine XS.istoreN X2.here hx rfl (hb hby d_jdk_43_22_14) rfl (l' := #[vr t, vi cc, vi 0, vi 3]) rfl ?_
    refine XS.iloadN X2.here hx rfl (hb hby d_jdk_43_22_15) rfl ?_
    refine XS.aloadN X2.here hx rfl (hb hby d_jdk_43_22_16) rfl rfl ?_
    exact k
  obtain ⟨cl_t_3, Ar_t_3, q_t_3, S_t_3, N_t_3, H_t_3, G_t_3⟩ := id V_t
  refine OEnds.st (S' := T2.setTop (mkF m 18 #[vr t, vi cc, vi 0, vi 3] [(.int 3), (.int 3)])) (fun tg kq9 => X2.arraylength hx (by rw [e2]; exact Ar_t_3.1) (State.isArrayOf_alike hZ.alike Ar_t_3.2.1) (g := (mkF m 17 #[vr t, vi cc, vi 0, vi 3] [(.ref t), (.int 3)])) rfl rfl (hb hby d_jdk_43_22_17) tg (by rw [len_of S_t_3 N_t_3]; exact kq9)) ?_
  obtain ⟨_, T4, h4, L4, X4, e4, hQ4, st4⟩ := callC X2 hx hZ hown (wq hw 78 rfl) (wq hw 79 rfl) (wq hw 76 rfl) (wq hw 80 rfl) (by decide) (kc := 0) (ks := 0) (Con.sb (W := 0) (rm_minSame l hD (3 : Int32) O0) hZ (wq hw 80 rfl) (wq hw 76 rfl) (by decide) (by decide)) e2 (g := (mkF m 18 #[vr t, vi cc, vi 0, vi 3] [(.int 3), (.int 3)])) rfl (by rw [hml]; rfl) (argsL := [(.int 3), (.int 3)]) (rest := []) (lenOf pd_10 rfl) rfl (by show 2 * 0 + _ ≤ _; exact Nat.le_of_eq rfl) (hb hby d_jdk_43_22_18) (by decide) (by decide)
  obtain ⟨rfl, Nq4, Hq4⟩ := hQ4
  refine OEnds.st st4 ?_
  replace N0 := Fr.app N0 Nq4
  replace e4 := e4.trans Hq4
  refine OEnds.st (S' := T4.setTop (mkF m 33 #[vr t, vi cc, vi 0, vi 3] [(.int 3), (.int 0), (.int cc), (.ref t)])) (fun _ k => ?_) ?_
  · refine XS.istoreN X4.here hx rfl (hb hby d_jdk_43_22_21) rfl (l' := #[vr t, vi cc, vi 0, vi 3]) rfl ?_
    refine XS.iloadN X4.here hx rfl (hb hby d_jdk_43_22_22) rfl ?_
    refine XS.iloadN X4.here hx rfl (hb hby d_jdk_43_22_23) rfl ?_
    refine XS.icmpYes X4.here hx rfl (pc0 := 24) (pc' := 29) rfl (hb hby d_jdk_43_22_24) rfl (tlt (by decide)).1 (by decide) (by decide) ?_
    show Steps p.tables e below (T4.setTop (mkF m 29 #[vr t, vi cc, vi 0, vi 3] [])) _
    refine XS.aloadN X4.here hx rfl (hb hby d_jdk_43_22_29) rfl rfl ?_
    refine XS.iloadN X4.here hx rfl (hb hby d_jdk_43_22_30) rfl ?_
    refine XS.iloadN X4.here hx rfl (hb hby d_jdk_43_22_31) rfl ?_
    refine XS.iloadN X4.here hx rfl (hb hby d_jdk_43_22_32) rfl ?_
    exact k
  obtain ⟨_, T5, h5, L5, X5, e5, hQ5, st5⟩ := callC X4 hx hZ hown (wq hw 81 rfl) (wq hw 82 rfl) (wq hw 69 rfl) (wq hw 83 rfl) (by decide) (kc := 0) (ks := 0) (Con.sb (W := 0) (rm_ioc3 l hD t cc k x0 x1 x2 O0 V_t hx0 hx1 hx2 hl0 hl1 hl2 hn0 hn1 hn2 hc) hZ (wq hw 83 rfl) (wq hw 69 rfl) (by decide) (by decide)) e4 (g := (mkF m 33 #[vr t, vi cc, vi 0, vi 3] [(.int 3), (.int 0), (.int cc), (.ref t)])) rfl (by rw [hml]; rfl) (argsL := [(.ref t), (.int cc), (.int 0), (.int 3)]) (rest := []) (lenOf pd_14 rfl) rfl (by show 2 * 0 + _ ≤ _; exact Nat.le_of_eq rfl) (hb hby d_jdk_43_22_33) (by decide) (by decide)
  obtain ⟨rfl, Nq5, Hq5⟩ := hQ5
  refine OEnds.st st5 ?_
  replace N0 := Fr.app N0 Nq5
  replace e5 := e5.trans Hq5
  exact OEnds.ret X5 hx hret hlk rfl (Or.inl ⟨rfl, by simp, _, rfl⟩) (hb hby d_jdk_43_22_36) (by decide) (by decide) (by rw [e5]; exact ⟨rfl, N0, rfl⟩)
-- java/lang/String.length:()I
def Q_sLen3_0 (Z : State) (a : Addr) (t : Addr) (k : ClassId) (x0 x1 x2 : Int32) (h0 : Heap) (v : Option Value) (h : Heap) (L : List Loc) : Prop := v = some (.int 3) ∧ Fr Z.heap.size L ∧ h = h0
theorem ef_sLen3_0 (m : MethodId) (a : Addr) : entryFrame m #[(.ref a)] 1 = mkF m 0 #[vr a] [] := by first | (simp [entryFrame, mkF, argsToLocals, Value.category, vi, vj, vr]; done) | rfl
set_option maxRecDepth 65536 in
set_option maxHeartbeats 40000000 in
theorem rm_sLen3_0 (l : Launch) {Z : State} {a0 : Array Value} (hD : Wd Z a0) (a : Addr) (t : Addr) (k : ClassId) (x0 x1 x2 : Int32) {h0 : Heap} (O0 : Ext Z.heap h0) (E_a : Exa Z h0 a "java/lang/String") (F_coder_a : Fld Z h0 a "java/lang/String" "coder" "B" (.int 0)) (F_value_a : Fld Z h0 a "java/lang/String" "value" "[B" (.ref t)) (V_t : Arv Z h0 t k .byte (3 : Int32) [(.int (x0.toInt8.toInt32)), (.int (x1.toInt8.toInt32)), (.int (x2.toInt8.toInt32))] (.int 0)) :
    Con l Z (⟨"java/lang/String", "length", "()I"⟩ : MethodName) jdk_42_method_54_code 1 (some .int) [] ({ frames := 1, cells := 0, slots := 0, locals := 13 } : Room) #[(.ref a)] h0 (Q_sLen3_0 Z a t k x0 x1 x2 h0) := by
  refine Con.walk (plainFor_of_name pn_1) ?_
  intro p e s m below meth c T0 X0 hx hZ hby hml hown hnm hret hlk e0
  obtain ⟨hw, ⟨cz, S_CS, hcz⟩, ⟨sf, S_SF, hsf⟩, S_AD, S_HI, S_LO⟩ := id hD
  have N0 := Fr.nil Z.heap.size
  refine OEnds.cast (ef_sLen3_0 m a) ?_
  refine OEnds.st (S' := T0.setTop (mkF m 1 #[vr a] [(.ref a)])) (fun _ k => ?_) ?_
  · refine XS.aloadN X0.here hx rfl (hb hby d_jdk_42_54_0) rfl rfl ?_
    exact k
  obtain ⟨T1, X1, e1, st1⟩ := getF X0 hx hZ hown (host := "") (Or.inl (wq hw 33 rfl)) Via.refl e0 F_value_a (g := (mkF m 1 #[vr a] [(.ref a)])) rfl rfl (hb hby d_jdk_42_54_1)
  refine OEnds.st st1 ?_
  obtain ⟨cl_t_2, Ar_t_2, q_t_2, S_t_2, N_t_2, H_t_2, G_t_2⟩ := id V_t
  refine OEnds.st (S' := T1.setTop (mkF m 5 #[vr a] [(.int 3)])) (fun tg kq9 => X1.arraylength hx (by rw [e1]; exact Ar_t_2.1) (State.isArrayOf_alike hZ.alike Ar_t_2.2.1) (g := (mkF m 4 #[vr a] [(.ref t)])) rfl rfl (hb hby d_jdk_42_54_4) tg (by rw [len_of S_t_2 N_t_2]; exact kq9)) ?_
  refine OEnds.st (S' := T1.setTop (mkF m 6 #[vr a] [(.ref a), (.int 3)])) (fun _ k => ?_) ?_
  · refine XS.aloadN X1.here hx rfl (hb hby d_jdk_42_54_5) rfl rfl ?_
    exact k
  obtain ⟨_, T3, h3, L3, X3, e3, hQ3, st3⟩ := virtC X1 hx hZ (y := (⟨"java/lang/String", "coder", "()B"⟩ : MethodName)) (z := (⟨"java/lang/String", "coder", "()B"⟩ : MethodName)) hown (wq hw 62 rfl) (wq hw 63 rfl) (nf_sel (args := #[]) (mvT hZ (wq hw 45 rfl)) rfl) (wq hw 65 rfl) (wq hw 64 rfl) (by decide) (kc := 0) (ks := 0) (Con.sb (W := 1) (rm_coder0 l hD a O0 F_coder_a) hZ (wq hw 66 rfl) (wq hw 8 rfl) (by decide) (by decide)) e1 E_a (g := (mkF m 6 #[vr a] [(.ref a), (.int 3)])) rfl (by rw [hml]; rfl) (argsL := []) (rest := [(.int 3)]) (lenOf pd_11 rfl) rfl (by show 2 * 0 + _ ≤ _; exact Nat.le_of_eq rfl) (hb hby d_jdk_42_54_6) (by decide) (by decide)
  obtain ⟨rfl, Nq3, Hq3⟩ := hQ3
  refine OEnds.st st3 ?_
  replace N0 := Fr.app N0 Nq3
  replace e3 := e3.trans Hq3
  refine OEnds.st (S' := T3.setTop (mkF m 10 #[vr a] [(.int 3)])) (fun _ k => ?_) ?_
  · refine XS.ishr X3.here hx rfl (hb hby d_jdk_42_54_9) rfl ?_
    exact k
  exact OEnds.ret X3 hx hret hlk rfl (Or.inl ⟨rfl, by simp, _, rfl⟩) (hb hby d_jdk_42_54_10) (by decide) (by decide) (by rw [e3]; exact ⟨rfl, N0, rfl⟩)
-- java/lang/String.indexOf:(II)I
def Q_io2_3_0 (Z : State) (a : Addr) (cc : Int32) (t : Addr) (k : ClassId) (x0 x1 x2 : Int32) (h0 : Heap) (v : Option Value) (h : Heap) (L : List Loc) : Prop := v = some (.int (-1)) ∧ Fr Z.heap.size L ∧ h = h0
theorem ef_io2_3_0 (m : MethodId) (a : Addr) (cc : Int32) : entryFrame m #[(.ref a), (.int cc), (.int 0)] 3 = mkF m 0 #[vr a, vi cc, vi 0] [] := by first | (simp [entryFrame, mkF, argsToLocals, Value.category, vi, vj, vr]; done) | rfl
set_option maxRecDepth 65536 in
set_option maxHeartbeats 40000000 in
theorem rm_io2_3_0 (l : Launch) {Z : State} {a0 : Array Value} (hD : Wd Z a0) (a : Addr) (cc : Int32) (t : Addr) (k : ClassId) (x0 x1 x2 : Int32) {h0 : Heap} (O0 : Ext Z.heap h0) (E_a : Exa Z h0 a "java/lang/String") (F_coder_a : Fld Z h0 a "java/lang/String" "coder" "B" (.int 0)) (F_value_a : Fld Z h0 a "java/lang/String" "value" "[B" (.ref t)) (V_t : Arv Z h0 t k .byte (3 : Int32) [(.int (x0.toInt8.toInt32)), (.int (x1.toInt8.toInt32)), (.int (x2.toInt8.toInt32))] (.int 0)) (hx0 : ¬ x0 < 0 ∧ ¬ (65535 : Int32) < x0) (hx1 : ¬ x1 < 0 ∧ ¬ (65535 : Int32) < x1) (hx2 : ¬ x2 < 0 ∧ ¬ (65535 : Int32) < x2) (hl0 : ¬ (255 : Int32) < x0) (hl1 : ¬ (255 : Int32) < x1) (hl2 : ¬ (255 : Int32) < x2) (hn0 : ¬ x0 = cc) (hn1 : ¬ x1 = cc) (hn2 : ¬ x2 = cc) (hc : ¬ cc < 0 ∧ ¬ (127 : Int32) < cc) :
    Con l Z (⟨"java/lang/String", "indexOf", "(II)I"⟩ : MethodName) jdk_42_method_80_code 3 (some .int) [] ({ frames := 2, cells := 0, slots := 0, locals := 32 } : Room) #[(.ref a), (.int cc), (.int 0)] h0 (Q_io2_3_0 Z a cc t k x0 x1 x2 h0) := by
  refine Con.walk (plainFor_of_name pn_1) ?_
  intro p e s m below meth c T0 X0 hx hZ hby hml hown hnm hret hlk e0
  obtain ⟨hw, ⟨cz, S_CS, hcz⟩, ⟨sf, S_SF, hsf⟩, S_AD, S_HI, S_LO⟩ := id hD
  have N0 := Fr.nil Z.heap.size
  refine OEnds.cast (ef_io2_3_0 m a cc) ?_
  refine OEnds.st (S' := T0.setTop (mkF m 1 #[vr a, vi cc, vi 0] [(.ref a)])) (fun _ k => ?_) ?_
  · refine XS.aloadN X0.here hx rfl (hb hby d_jdk_42_80_0) rfl rfl ?_
    exact k
  obtain ⟨_, T1, h1, L1, X1, e1, hQ1, st1⟩ := virtC X0 hx hZ (y := (⟨"java/lang/String", "isLatin1", "()Z"⟩ : MethodName)) (z := (⟨"java/lang/String", "isLatin1", "()Z"⟩ : MethodName)) hown (wq hw 52 rfl) (wq hw 53 rfl) (nf_sel (args := #[]) (mvT hZ (wq hw 45 rfl)) rfl) (wq hw 55 rfl) (wq hw 54 rfl) (by decide) (kc := 0) (ks := 0) (Con.sb (W := 0) (rm_isLat0 l hD a O0 F_coder_a) hZ (wq hw 56 rfl) (wq hw 8 rfl) (by decide) (by decide)) e0 E_a (g := (mkF m 1 #[vr a, vi cc, vi 0] [(.ref a)])) rfl (by rw [hml]; rfl) (argsL := []) (rest := []) (lenOf pd_12 rfl) rfl (by show 2 * 0 + _ ≤ _; exact Nat.le_of_eq rfl) (hb hby d_jdk_42_80_1) (by decide) (by decide)
  obtain ⟨rfl, Nq1, Hq1⟩ := hQ1
  refine OEnds.st st1 ?_
  replace N0 := Fr.app N0 Nq1
  replace e1 := e1.trans Hq1
  refine OEnds.st (S' := T1.setTop (mkF m 8 #[vr a, vi cc, vi 0] [(.ref a)])) (fun _ k => ?_) ?_
  · refine XS.ifNo X1.here hx rfl (hb hby d_jdk_42_80_4) rfl ((if0 _ _).trans (feq (by decide)).1) ?_
    refine XS.aloadN X1.here hx rfl (hb hby d_jdk_42_80_7) rfl rfl ?_
    exact k
  obtain ⟨T2, X2, e2, st2⟩ := getF X1 hx hZ hown (host := "") (Or.inl (wq hw 33 rfl)) Via.refl e1 F_value_a (g := (mkF m 8 #[vr a, vi cc, vi 0] [(.ref a)])) rfl rfl (hb hby d_jdk_42_80_8)
  refine OEnds.st st2 ?_
  refine OEnds.st (S' := T2.setTop (mkF m 14 #[vr a, vi cc, vi 0] [(.ref a), (.int 0), (.int cc), (.ref t)])) (fun _ k => ?_) ?_
  · refine XS.iloadN X2.here hx rfl (hb hby d_jdk_42_80_11) rfl ?_
    refine XS.iloadN X2.here hx rfl (hb hby d_jdk_42_80_12) rfl ?_
    refine XS.aloadN X2.here hx rfl (hb hby d_jdk_42_80_13) rfl rfl ?_
    exact k
  obtain ⟨_, T3, h3, L3, X3, e3, hQ3, st3⟩ := virtC X2 hx hZ (y := (⟨"java/lang/String", "length", "()I"⟩ : MethodName)) (z := (⟨"java/lang/String", "length", "()I"⟩ : MethodName)) hown (wq hw 57 rfl) (wq hw 58 rfl) (nf_sel (args := #[]) (mvT hZ (wq hw 45 rfl)) rfl) (wq hw 60 rfl) (wq hw 59 rfl) (by decide) (kc := 0) (ks := 0) (Con.sb (W := 3) (rm_sLen3_0 l hD a t k x0 x1 x2 O0 E_a F_coder_a F_value_a V_t) hZ (wq hw 61 rfl) (wq hw 8 rfl) (by decide) (by decide)) e2 E_a (g := (mkF m 14 #[vr a, vi cc, vi 0] [(.ref a), (.int 0), (.int cc), (.ref t)])) rfl (by rw [hml]; rfl) (argsL := []) (rest := [(.int 0), (.int cc), (.ref t)]) (lenOf pd_13 rfl) rfl (by show 2 * 0 + _ ≤ _; exact Nat.le_of_eq rfl) (hb hby d_jdk_42_80_14) (by decide) (by decide)
  obtain ⟨rfl, Nq3, Hq3⟩ := hQ3
  refine OEnds.st st3 ?_
  replace N0 := Fr.app N0 Nq3
  replace e3 := e3.trans Hq3
  obtain ⟨_, T4, h4, L4, X4, e4, hQ4, st4⟩ := callC X3 hx hZ hown (wq hw 67 rfl) (wq hw 68 rfl) (wq hw 69 rfl) (wq hw 70 rfl) (by decide) (kc := 0) (ks := 0) (Con.sb (W := 0) (rm_lio3 l hD t cc k x0 x1 x2 O0 V_t hx0 hx1 hx2 hl0 hl1 hl2 hn0 hn1 hn2 hc) hZ (wq hw 70 rfl) (wq hw 69 rfl) (by decide) (by decide)) e3 (g := (mkF m 17 #[vr a, vi cc, vi 0] [(.int 3), (.int 0), (.int cc), (.ref t)])) rfl (by rw [hml]; rfl) (argsL := [(.ref t), (.int cc), (.int 0), (.int 3)]) (rest := []) (lenOf pd_14 rfl) rfl (by show 2 * 0 + _ ≤ _; exact Nat.le_of_eq rfl) (hb hby d_jdk_42_80_17) (by decide) (by decide)
  obtain ⟨rfl, Nq4, Hq4⟩ := hQ4
  refine OEnds.st st4 ?_
  replace N0 := Fr.app N0 Nq4
  replace e4 := e4.trans Hq4
  refine OEnds.st (S' := T4.setTop (mkF m 36 #[vr a, vi cc, vi 0] [(.int (-1))])) (fun _ k => ?_) ?_
  · refine XS.goto X4.here hx rfl (pc0 := 20) (pc' := 36) rfl (hb hby d_jdk_42_80_20) (by decide) (by decide) ?_
    exact k
  exact OEnds.ret X4 hx hret hlk rfl (Or.inl ⟨rfl, by simp, _, rfl⟩) (hb hby d_jdk_42_80_36) (by decide) (by decide) (by rw [e4]; exact ⟨rfl, N0, rfl⟩)
-- java/lang/String.indexOf:(I)I
def Q_io1_3_0 (Z : State) (a : Addr) (cc : Int32) (t : Addr) (k : ClassId) (x0 x1 x2 : Int32) (h0 : Heap) (v : Option Value) (h : Heap) (L : List Loc) : Prop := v = some (.int (-1)) ∧ Fr Z.heap.size L ∧ h = h0
theorem ef_io1_3_0 (m : MethodId) (a : Addr) (cc : Int32) : entryFrame m #[(.ref a), (.int cc)] 2 = mkF m 0 #[vr a, vi cc] [] := by first | (simp [entryFrame, mkF, argsToLocals, Value.category, vi, vj, vr]; done) | rfl
set_option maxRecDepth 65536 in
set_option maxHeartbeats 40000000 in
theorem rm_io1_3_0 (l : Launch) {Z : State} {a0 : Array Value} (hD : Wd Z a0) (a : Addr) (cc : Int32) (t : Addr) (k : ClassId) (x0 x1 x2 : Int32) {h0 : Heap} (O0 : Ext Z.heap h0) (E_a : Exa Z h0 a "java/lang/String") (F_coder_a : Fld Z h0 a "java/lang/String" "coder" "B" (.int 0)) (F_value_a : Fld Z h0 a "java/lang/String" "value" "[B" (.ref t)) (V_t : Arv Z h0 t k .byte (3 : Int32) [(.int (x0.toInt8.toInt32)), (.int (x1.toInt8.toInt32)), (.int (x2.toInt8.toInt32))] (.int 0)) (hx0 : ¬ x0 < 0 ∧ ¬ (65535 : Int32) < x0) (hx1 : ¬ x1 < 0 ∧ ¬ (65535 : Int32) < x1) (hx2 : ¬ x2 < 0 ∧ ¬ (65535 : Int32) < x2) (hl0 : ¬ (255 : Int32) < x0) (hl1 : ¬ (255 : Int32) < x1) (hl2 : ¬ (255 : Int32) < x2) (hn0 : ¬ x0 = cc) (hn1 : ¬ x1 = cc) (hn2 : ¬ x2 = cc) (hc : ¬ cc < 0 ∧ ¬ (127 : Int32) < cc) :
    Con l Z (⟨"java/lang/String", "indexOf", "(I)I"⟩ : MethodName) jdk_42_method_79_code 2 (some .int) [] ({ frames := 3, cells := 0, slots := 0, locals := 46 } : Room) #[(.ref a), (.int cc)] h0 (Q_io1_3_0 Z a cc t k x0 x1 x2 h0) := by
  refine Con.walk (plainFor_of_name pn_1) ?_
  intro p e s m below meth c T0 X0 hx hZ hby hml hown hnm hret hlk e0
  obtain ⟨hw, ⟨cz, S_CS, hcz⟩, ⟨sf, S_SF, hsf⟩, S_AD, S_HI, S_LO⟩ := id hD
  have N0 := Fr.nil Z.heap.size
  refine OEnds.cast (ef_io1_3_0 m a cc) ?_
  refine OEnds.st (S' := T0.setTop (mkF m 3 #[vr a, vi cc] [(.int 0), (.int cc), (.ref a)])) (fun _ k => ?_) ?_
  · refine XS.aloadN X0.here hx rfl (hb hby d_jdk_42_79_0) rfl rfl ?_
    refine XS.iloadN X0.here hx rfl (hb hby d_jdk_42_79_1) rfl ?_
    refine XS.iconst X0.here hx rfl (hb hby d_jdk_42_79_2) ?_
    exact k
  obtain ⟨_, T1, h1, L1, X1, e1, hQ1, st1⟩ := virtC X0 hx hZ (y := (⟨"java/lang/String", "indexOf", "(II)I"⟩ : MethodName)) (z := (⟨"java/lang/String", "indexOf", "(II)I"⟩ : MethodName)) hown (wq hw 47 rfl) (wq hw 48 rfl) (nf_sel (args := #[]) (mvT hZ (wq hw 45 rfl)) rfl) (wq hw 50 rfl) (wq hw 49 rfl) (by decide) (kc := 0) (ks := 0) (Con.sb (W := 0) (rm_io2_3_0 l hD a cc t k x0 x1 x2 O0 E_a F_coder_a F_value_a V_t hx0 hx1 hx2 hl0 hl1 hl2 hn0 hn1 hn2 hc) hZ (wq hw 51 rfl) (wq hw 8 rfl) (by decide) (by decide)) e0 E_a (g := (mkF m 3 #[vr a, vi cc] [(.int 0), (.int cc), (.ref a)])) rfl (by rw [hml]; rfl) (argsL := [(.int cc), (.int 0)]) (rest := []) (lenOf pd_10 rfl) rfl (by show 2 * 0 + _ ≤ _; exact Nat.le_of_eq rfl) (hb hby d_jdk_42_79_3) (by decide) (by decide)
  obtain ⟨rfl, Nq1, Hq1⟩ := hQ1
  refine OEnds.st st1 ?_
  replace N0 := Fr.app N0 Nq1
  replace e1 := e1.trans Hq1
  exact OEnds.ret X1 hx hret hlk rfl (Or.inl ⟨rfl, by simp, _, rfl⟩) (hb hby d_jdk_42_79_6) (by decide) (by decide) (by rw [e1]; exact ⟨rfl, N0, rfl⟩)
-- com/example/exact_gate/exactgate/Names.requireOneLine:(Ljava/lang/String;Ljava/lang/String;)Ljava/lang/String;
def Q_req3_0 (Z : State) (a : Addr) (nm : Addr) (t : Addr) (k : ClassId) (x0 x1 x2 : Int32) (h0 : Heap) (v : Option Value) (h : Heap) (L : List Loc) : Prop := v = some (.ref a) ∧ Fr Z.heap.size L ∧ h = h0
theorem ef_req3_0 (m : MethodId) (a : Addr) (nm : Addr) : entryFrame m #[(.ref a), (.ref nm)] 2 = mkF m 0 #[vr a, vr nm] [] := by first | (simp [entryFrame, mkF, argsToLocals, Value.category, vi, vj, vr]; done) | rfl
set_option maxRecDepth 65536 in
set_option maxHeartbeats 40000000 in
theorem rm_req3_0 (l : Launch) {Z : State} {a0 : Array Value} (hD : Wd Z a0) (a : Addr) (nm : Addr) (t : Addr) (k : ClassId) (x0 x1 x2 : Int32) {h0 : Heap} (O0 : Ext Z.heap h0) (E_a : Exa Z h0 a "java/lang/String") (F_coder_a : Fld Z h0 a "java/lang/String" "coder" "B" (.int 0)) (F_value_a : Fld Z h0 a "java/lang/String" "value" "[B" (.ref t)) (V_t : Arv Z h0 t k .byte (3 : Int32) [(.int (x0.toInt8.toInt32)), (.int (x1.toInt8.toInt32)), (.int (x2.toInt8.toInt32))] (.int 0)) (hx0 : ¬ x0 < 0 ∧ ¬ (65535 : Int32) < x0) (hx1 : ¬ x1 < 0 ∧ ¬ (65535 : Int32) < x1) (hx2 : ¬ x2 < 0 ∧ ¬ (65535 : Int32) < x2) (hl0 : ¬ (255 : Int32) < x0) (hl1 : ¬ (255 : Int32) < x1) (hl2 : ¬ (255 : Int32) < x2) (hb0 : ¬ x0 = 10 ∧ ¬ x0 = 13) (hb1 : ¬ x1 = 10 ∧ ¬ x1 = 13) (hb2 : ¬ x2 = 10 ∧ ¬ x2 = 13) :
    Con l Z (⟨"com/example/exact_gate/exactgate/Names", "requireOneLine", "(Ljava/lang/String;Ljava/lang/String;)Ljava/lang/String;"⟩ : MethodName) prog_2_method_6_code 2 (some (.object "java/lang/String")) [] ({ frames := 4, cells := 0, slots := 0, locals := 59 } : Room) #[(.ref a), (.ref nm)] h0 (Q_req3_0 Z a nm t k x0 x1 x2 h0) := by
  refine Con.walk (plainFor_of_name pn_5) ?_
  intro p e s m below meth c T0 X0 hx hZ hby hml hown hnm hret hlk e0
  obtain ⟨hw, ⟨cz, S_CS, hcz⟩, ⟨sf, S_SF, hsf⟩, S_AD, S_HI, S_LO⟩ := id hD
  have N0 := Fr.nil Z.heap.size
  refine OEnds.cast (ef_req3_0 m a nm) ?_
  refine OEnds.st (S' := T0.setTop (mkF m 3 #[vr a, vr nm] [(.int 10), (.ref a)])) (fun _ k => ?_) ?_
  · refine XS.aloadN X0.here hx rfl (hb hby d_prog_2_6_0) rfl rfl ?_
    refine XS.bipush X0.here hx rfl (hb hby d_prog_2_6_1) ?_
    exact k
  obtain ⟨_, T1, h1, L1, X1, e1, hQ1, st1⟩ := virtC X0 hx hZ (y := (⟨"java/lang/String", "indexOf", "(I)I"⟩ : MethodName)) (z := (⟨"java/lang/String", "indexOf", "(I)I"⟩ : MethodName)) hown (wq hw 42 rfl) (wq hw 43 rfl) (nf_sel (args := #[]) (mvT hZ (wq hw 45 rfl)) rfl) (wq hw 45 rfl) (wq hw 44 rfl) (by decide) (kc := 0) (ks := 0) (Con.sb (W := 0) (rm_io1_3_0 l hD a (10 : Int32) t k x0 x1 x2 O0 E_a F_coder_a F_value_a V_t hx0 hx1 hx2 hl0 hl1 hl2 hb0.1 hb1.1 hb2.1 ⟨by decide, by decide⟩) hZ (wq hw 46 rfl) (wq hw 8 rfl) (by decide) (by decide)) e0 E_a (g := (mkF m 3 #[vr a, vr nm] [(.int 10), (.ref a)])) rfl (by rw [hml]; rfl) (argsL := [(.int 10)]) (rest := []) (lenOf pd_1 rfl) rfl (by show 2 * 0 + _ ≤ _; exact Nat.le_of_eq rfl) (hb hby d_prog_2_6_3) (by decide) (by decide)
  obtain ⟨rfl, Nq1, Hq1⟩ := hQ1
  refine OEnds.st st1 ?_
  replace N0 := Fr.app N0 Nq1
  replace e1 := e1.trans Hq1
  refine OEnds.st (S' := T1.setTop (mkF m 12 #[vr a, vr nm] [(.int 13), (.ref a)])) (fun _ k => ?_) ?_
  · refine XS.ifNo X1.here hx rfl (hb hby d_prog_2_6_6) rfl ((if0 _ _).trans (tlt (by decide)).2.1) ?_
    refine XS.aloadN X1.here hx rfl (hb hby d_prog_2_6_9) rfl rfl ?_
    refine XS.bipush X1.here hx rfl (hb hby d_prog_2_6_10) ?_
    exact k
  obtain ⟨_, T2, h2, L2, X2, e2, hQ2, st2⟩ := virtC X1 hx hZ (y := (⟨"java/lang/String", "indexOf", "(I)I"⟩ : MethodName)) (z := (⟨"java/lang/String", "indexOf", "(I)I"⟩ : MethodName)) hown (wq hw 42 rfl) (wq hw 43 rfl) (nf_sel (args := #[]) (mvT hZ (wq hw 45 rfl)) rfl) (wq hw 45 rfl) (wq hw 44 rfl) (by decide) (kc := 0) (ks := 0) (Con.sb (W := 0) (rm_io1_3_0 l hD a (13 : Int32) t k x0 x1 x2 O0 E_a F_coder_a F_value_a V_t hx0 hx1 hx2 hl0 hl1 hl2 hb0.2 hb1.2 hb2.2 ⟨by decide, by decide⟩) hZ (wq hw 46 rfl) (wq hw 8 rfl) (by decide) (by decide)) e1 E_a (g := (mkF m 12 #[vr a, vr nm] [(.int 13), (.ref a)])) rfl (by rw [hml]; rfl) (argsL := [(.int 13)]) (rest := []) (lenOf pd_1 rfl) rfl (by show 2 * 0 + _ ≤ _; exact Nat.le_of_eq rfl) (hb hby d_prog_2_6_12) (by decide) (by decide)
  obtain ⟨rfl, Nq2, Hq2⟩ := hQ2
  refine OEnds.st st2 ?_
  replace N0 := Fr.app N0 Nq2
  replace e2 := e2.trans Hq2
  refine OEnds.st (S' := T2.setTop (mkF m 33 #[vr a, vr nm] [(.ref a)])) (fun _ k => ?_) ?_
  · refine XS.ifYes X2.here hx rfl (pc0 := 15) (pc' := 32) rfl (hb hby d_prog_2_6_15) rfl ((if0 _ _).trans (tlt (by decide)).1) (by decide) (by decide) ?_
    refine XS.aloadN X2.here hx rfl (hb hby d_prog_2_6_32) rfl rfl ?_
    exact k
  exact OEnds.ret X2 hx hret hlk rfl (Or.inr (Or.inr (Or.inr (Or.inr ⟨rfl, rfl, rfl⟩)))) (hb hby d_prog_2_6_33) (by decide) (by decide) (by rw [e2]; exact ⟨rfl, N0, rfl⟩)
-- java/lang/StringUTF16.indexOfCharUnsafe:([BIII)I
def Q_unsafe3 (Z : State) (t : Addr) (cc : Int32) (k : ClassId) (x0 x1 x2 : Int32) (h0 : Heap) (v : Option Value) (h : Heap) (L : List Loc) : Prop := v = some (.int (-1)) ∧ Fr Z.heap.size L ∧ h = h0
theorem ef_unsafe3 (m : MethodId) (t : Addr) (cc : Int32) : entryFrame m #[(.ref t), (.int cc), (.int 0), (.int 3)] 5 = mkF m 0 #[vr t, vi cc, vi 0, vi 3, .unset] [] := by first | (simp [entryFrame, mkF, argsToLocals, Value.category, vi, vj, vr]; done) | rfl
set_option maxRecDepth 65536 in
set_option maxHeartbeats 40000000 in
theorem rm_unsafe3 (l : Launch) {Z : State} {a0 : Array Value} (hD : Wd Z a0) (t : Addr) (cc : Int32) (k : ClassId) (x0 x1 x2 : Int32) {h0 : Heap} (O0 : Ext Z.heap h0) (V_t : Arv Z h0 t k .byte (6 : Int32) [(.int (x0.toInt8.toInt32)), (.int ((x0 >>> ((8 : Int32) &&& 31)).toInt8.toInt32)), (.int (x1.toInt8.toInt32)), (.int ((x1 >>> ((8 : Int32) &&& 31)).toInt8.toInt32)), (.int (x2.toInt8.toInt32)), (.int ((x2 >>> ((8 : Int32) &&& 31)).toInt8.toInt32))] (.int 0)) (hx0 : ¬ x0 < 0 ∧ ¬ (65535 : Int32) < x0) (hx1 : ¬ x1 < 0 ∧ ¬ (65535 : Int32) < x1) (hx2 : ¬ x2 < 0 ∧ ¬ (65535 : Int32) < x2) (hn0 : ¬ x0 = cc) (hn1 : ¬ x1 = cc) (hn2 : ¬ x2 = cc) (hc : ¬ cc < 0 ∧ ¬ (127 : Int32) < cc) :
    Con l Z (⟨"java/lang/StringUTF16", "indexOfCharUnsafe", "([BIII)I"⟩ : MethodName) jdk_52_method_48_code 5 (some .int) [] ({ frames := 1, cells := 0, slots := 0, locals := 13 } : Room) #[(.ref t), (.int cc), (.int 0), (.int 3)] h0 (Q_unsafe3 Z t cc k x0 x1 x2 h0) := by
  refine Con.walk (plainFor_of_name pn_4) ?_
  intro p e s m below meth c T0 X0 hx hZ hby hml hown hnm hret hlk e0
  obtain ⟨hw, ⟨cz, S_CS, hcz⟩, ⟨sf, S_SF, hsf⟩, S_AD, S_HI, S_LO⟩ := id hD
  have N0 := Fr.nil Z.heap.size
  refine OEnds.cast (ef_unsafe3 m t cc) ?_
  refine OEnds.st (S' := T0.setTop (mkF m 12 #[vr t, vi cc, vi 0, vi 3, vi 0] [(.int 0), (.ref t)])) (fun _ k => ?_) ?_
  · refine XS.iloadN X0.here hx rfl (hb hby d_jdk_52_48_0) rfl ?_
    refine XS.istore X0.here hx rfl (hb hby d_jdk_52_48_1) rfl (l' := #[vr t, vi cc, vi 0, vi 3, vi 0]) rfl ?_
    refine XS.iload X0.here hx rfl (hb hby d_jdk_52_48_3) rfl ?_
    refine XS.iloadN X0.here hx rfl (hb hby d_jdk_52_48_5) rfl ?_
    show Steps p.tables e below (T0.setTop (mkF m 6 #[vr t, vi cc, vi 0, vi 3, vi 0] [(.int 3), (.int 0)])) _
    refine XS.icmpNo X0.here hx rfl (hb hby d_jdk_52_48_6) rfl (tlt (by decide)).2.1 ?_
    refine XS.aloadN X0.here hx rfl (hb hby d_jdk_52_48_9) rfl rfl ?_
    refine XS.iload X0.here hx rfl (hb hby d_jdk_52_48_10) rfl ?_
    exact k
  obtain ⟨_, T1, h1, L1, X1, e1, hQ1, st1⟩ := callC X0 hx hZ hown (wq hw 101 rfl) (wq hw 102 rfl) (wq hw 22 rfl) (wq hw 103 rfl) (by decide) (kc := 0) (ks := 0) (Con.sb (W := 0) (rm_getC3_0 l hD t k x0 x1 x2 O0 V_t hx0) hZ (wq hw 103 rfl) (wq hw 22 rfl) (by decide) (by decide)) e0 (g := (mkF m 12 #[vr t, vi cc, vi 0, vi 3, vi 0] [(.int 0), (.ref t)])) rfl (by rw [hml]; rfl) (argsL := [(.ref t), (.int 0)]) (rest := []) (lenOf pd_6 rfl) rfl (by show 2 * 0 + _ ≤ _; exact Nat.le_of_eq rfl) (hb hby d_jdk_52_48_12) (by decide) (by decide)
  obtain ⟨rfl, Nq1, Hq1⟩ := hQ1
  refine OEnds.st st1 ?_
  replace N0 := Fr.app N0 Nq1
  replace e1 := e1.trans Hq1
  refine OEnds.st (S' := T1.setTop (mkF m 22 #[vr t, vi cc, vi 0, vi 3, vi 0] [])) (fun _ k => ?_) ?_
  · refine XS.iloadN X1.here hx rfl (hb hby d_jdk_52_48_15) rfl ?_
    refine XS.icmpYes X1.here hx rfl (pc0 := 16) (pc' := 22) rfl (hb hby d_jdk_52_48_16) rfl (feq hn0).2 (by decide) (by decide) ?_
    exact k
  refine OEnds.st (S' := T1.setTop (mkF m 3 #[vr t, vi cc, vi 0, vi 3, vi 1] [])) (fun _ k => ?_) ?_
  · refine XS.iinc X1.here hx rfl (hb hby d_jdk_52_48_22) rfl (l' := #[vr t, vi cc, vi 0, vi 3, vi 1]) rfl ?_
    refine XS.goto X1.here hx rfl (pc0 := 25) (pc' := 3) rfl (hb hby d_jdk_52_48_25) (by decide) (by decide) ?_
    exact k
  refine OEnds.st (S' := T1.setTop (mkF m 12 #[vr t, vi cc, vi 0, vi 3, vi 1] [(.int 1), (.ref t)])) (fun _ k => ?_) ?_
  · refine XS.iload X1.here hx rfl (hb hby d_jdk_52_48_3) rfl ?_
    refine XS.iloadN X1.here hx rfl (hb hby d_jdk_52_48_5) rfl ?_
    refine XS.icmpNo X1.here hx rfl (hb hby d_jdk_52_48_6) rfl (tlt (by decide)).2.1 ?_
    refine XS.aloadN X1.here hx rfl (hb hby d_jdk_52_48_9) rfl rfl ?_
    show Steps p.tables e below (T1.setTop (mkF m 10 #[vr t, vi cc, vi 0, vi 3, vi 1] [(.ref t)])) _
    refine XS.iload X1.here hx rfl (hb hby d_jdk_52_48_10) rfl ?_
    exact k
  obtain ⟨_, T2, h2, L2, X2, e2, hQ2, st2⟩ := callC X1 hx hZ hown (wq hw 101 rfl) (wq hw 102 rfl) (wq hw 22 rfl) (wq hw 103 rfl) (by decide) (kc := 0) (ks := 0) (Con.sb (W := 0) (rm_getC3_1 l hD t k x0 x1 x2 O0 V_t hx1) hZ (wq hw 103 rfl) (wq hw 22 rfl) (by decide) (by decide)) e1 (g := (mkF m 12 #[vr t, vi cc, vi 0, vi 3, vi 1] [(.int 1), (.ref t)])) rfl (by rw [hml]; rfl) (argsL := [(.ref t), (.int 1)]) (rest := []) (lenOf pd_6 rfl) rfl (by show 2 * 0 + _ ≤ _; exact Nat.le_of_eq rfl) (hb hby d_jdk_52_48_12) (by decide) (by decide)
  obtain ⟨rfl, Nq2, Hq2⟩ := hQ2
  refine OEnds.st st2 ?_
  replace N0 := Fr.app N0 Nq2
  replace e2 := e2.trans Hq2
  refine OEnds.st (S' := T2.setTop (mkF m 22 #[vr t, vi cc, vi 0, vi 3, vi 1] [])) (fun _ k => ?_) ?_
  · refine XS.iloadN X2.here hx rfl (hb hby d_jdk_52_48_15) rfl ?_
    refine XS.icmpYes X2.here hx rfl (pc0 := 16) (pc' := 22) rfl (hb hby d_jdk_52_48_16) rfl (feq hn1).2 (by decide) (by decide) ?_
    exact k
  refine OEnds.st (S' := T2.setTop (mkF m 3 #[vr t, vi cc, vi 0, vi 3, vi 2] [])) (fun _ k => ?_) ?_
  · refine XS.iinc X2.here hx rfl (hb hby d_jdk_52_48_22) rfl (l' := #[vr t, vi cc, vi 0, vi 3, vi 2]) rfl ?_
    refine XS.goto X2.here hx rfl (pc0 := 25) (pc' := 3) rfl (hb hby d_jdk_52_48_25) (by decide) (by decide) ?_
    exact k
  refine OEnds.st (S' := T2.setTop (mkF m 12 #[vr t, vi cc, vi 0, vi 3, vi 2] [(.int 2), (.ref t)])) (fun _ k => ?_) ?_
  · refine XS.iload X2.here hx rfl (hb hby d_jdk_52_48_3) rfl ?_
    refine XS.iloadN X2.here hx rfl (hb hby d_jdk_52_48_5) rfl ?_
    refine XS.icmpNo X2.here hx rfl (hb hby d_jdk_52_48_6) rfl (tlt (by decide)).2.1 ?_
    refine XS.aloadN X2.here hx rfl (hb hby d_jdk_52_48_9) rfl rfl ?_
    show Steps p.tables e below (T2.setTop (mkF m 10 #[vr t, vi cc, vi 0, vi 3, vi 2] [(.ref t)])) _
    refine XS.iload X2.here hx rfl (hb hby d_jdk_52_48_10) rfl ?_
    exact k
  obtain ⟨_, T3, h3, L3, X3, e3, hQ3, st3⟩ := callC X2 hx hZ hown (wq hw 101 rfl) (wq hw 102 rfl) (wq hw 22 rfl) (wq hw 103 rfl) (by decide) (kc := 0) (ks := 0) (Con.sb (W := 0) (rm_getC3_2 l hD t k x0 x1 x2 O0 V_t hx2) hZ (wq hw 103 rfl) (wq hw 22 rfl) (by decide) (by decide)) e2 (g := (mkF m 12 #[vr t, vi cc, vi 0, vi 3, vi 2] [(.int 2), (.ref t)])) rfl (by rw [hml]; rfl) (argsL := [(.ref t), (.int 2)]) (rest := []) (lenOf pd_6 rfl) rfl (by show 2 * 0 + _ ≤ _; exact Nat.le_of_eq rfl) (hb hby d_jdk_52_48_12) (by decide) (by decide)
  obtain ⟨rfl, Nq3, Hq3⟩ := hQ3
  refine OEnds.st st3 ?_
  replace N0 := Fr.app N0 Nq3
  replace e3 := e3.trans Hq3
  refine OEnds.st (S' := T3.setTop (mkF m 22 #[vr t, vi cc, vi 0, vi 3, vi 2] [])) (fun _ k => ?_) ?_
  · refine XS.iloadN X3.here hx rfl (hb hby d_jdk_52_48_15) rfl ?_
    refine XS.icmpYes X3.here hx rfl (pc0 := 16) (pc' := 22) rfl (hb hby d_jdk_52_48_16) rfl (feq hn2).2 (by decide) (by decide) ?_
    exact k
  refine OEnds.st (S' := T3.setTop (mkF m 3 #[vr t, vi cc, vi 0, vi 3, vi 3] [])) (fun _ k => ?_) ?_
  · refine XS.iinc X3.here hx rfl (hb hby d_jdk_52_48_22) rfl (l' := #[vr t, vi cc, vi 0, vi 3, vi 3]) rfl ?_
    refine XS.goto X3.here hx rfl (pc0 := 25) (pc' := 3) rfl (hb hby d_jdk_52_48_25) (by decide) (by decide) ?_
    exact k
  refine OEnds.st (S' := T3.setTop (mkF m 29 #[vr t, vi cc, vi 0, vi 3, vi 3] [(.int (-1))])) (fun _ k => ?_) ?_
  · refine XS.iload X3.here hx rfl (hb hby d_jdk_52_48_3) rfl ?_
    refine XS.iloadN X3.here hx rfl (hb hby d_jdk_52_48_5) rfl ?_
    refine XS.icmpYes X3.here hx rfl (pc0 := 6) (pc' := 28) rfl (hb hby d_jdk_52_48_6) rfl (flt (by decide)).2.1 (by decide) (by decide) ?_
    refine XS.iconst X3.here hx rfl (hb hby d_jdk_52_48_28) ?_
    exact k
  exact OEnds.ret X3 hx hret hlk rfl (Or.inl ⟨rfl, by simp, _, rfl⟩) (hb hby d_jdk_52_48_29) (by decide) (by decide) (by rw [e3]; exact ⟨rfl, N0, rfl⟩)
-- java/lang/StringUTF16.length:([B)I
def Q_ulen3 (Z : State) (t : Addr) (k : ClassId) (x0 x1 x2 : Int32) (h0 : Heap) (v : Option Value) (h : Heap) (L : List Loc) : Prop := v = some (.int 3) ∧ Fr Z.heap.size L ∧ h = h0
theorem ef_ulen3 (m : MethodId) (t : Addr) : entryFrame m #[(.ref t)] 1 = mkF m 0 #[vr t] [] := by first | (simp [entryFrame, mkF, argsToLocals, Value.category, vi, vj, vr]; done) | rfl
set_option maxRecDepth 65536 in
set_option maxHeartbeats 40000000 in
theorem rm_ulen3 (l : Launch) {Z : State} {a0 : Array Value} (hD : Wd Z a0) (t : Addr) (k : ClassId) (x0 x1 x2 : Int32) {h0 : Heap} (O0 : Ext Z.heap h0) (V_t : Arv Z h0 t k .byte (6 : Int32) [(.int (x0.toInt8.toInt32)), (.int ((x0 >>> ((8 : Int32) &&& 31)).toInt8.toInt32)), (.int (x1.toInt8.toInt32)), (.int ((x1 >>> ((8 : Int32) &&& 31)).toInt8.toInt32)), (.int (x2.toInt8.toInt32)), (.int ((x2 >>> ((8 : Int32) &&& 31)).toInt8.toInt32))] (.int 0)) :
    Con l Z (⟨"java/lang/StringUTF16", "length", "([B)I"⟩ : MethodName) jdk_52_method_6_code 1 (some .int) [] ({ frames := 0, cells := 0, slots := 0, locals := 0 } : Room) #[(.ref t)] h0 (Q_ulen3 Z t k x0 x1 x2 h0) := by
  refine Con.walk (plainFor_of_name pn_4) ?_
  intro p e s m below meth c T0 X0 hx hZ hby hml hown hnm hret hlk e0
  obtain ⟨hw, ⟨cz, S_CS, hcz⟩, ⟨sf, S_SF, hsf⟩, S_AD, S_HI, S_LO⟩ := id hD
  have N0 := Fr.nil Z.heap.size
  refine OEnds.cast (ef_ulen3 m t) ?_
  refine OEnds.st (S' := T0.setTop (mkF m 1 #[vr t] [(.ref t)])) (fun _ k => ?_) ?_
  · refine XS.aloadN X0.here hx rfl (hb hby d_jdk_52_6_0) rfl rfl ?_
    exact k
  obtain ⟨cl_t_1, Ar_t_1, q_t_1, S_t_1, N_t_1, H_t_1, G_t_1⟩ := id V_t
  refine OEnds.st (S' := T0.setTop (mkF m 2 #[vr t] [(.int 6)])) (fun tg kq9 => X0.arraylength hx (by rw [e0]; exact Ar_t_1.1) (State.isArrayOf_alike hZ.alike Ar_t_1.2.1) (g := (mkF m 1 #[vr t] [(.ref t)])) rfl rfl (hb hby d_jdk_52_6_1) tg (by rw [len_of S_t_1 N_t_1]; exact kq9)) ?_
  refine OEnds.st (S' := T0.setTop (mkF m 4 #[vr t] [(.int 3)])) (fun _ k => ?_) ?_
  · refine XS.iconst X0.here hx rfl (hb hby d_jdk_52_6_2) ?_
    refine XS.ishr X0.here hx rfl (hb hby d_jdk_52_6_3) rfl ?_
    exact k
  exact OEnds.ret X0 hx hret hlk rfl (Or.inl ⟨rfl, by simp, _, rfl⟩) (hb hby d_jdk_52_6_4) (by decide) (by decide) (by rw [e0]; exact ⟨rfl, N0, rfl⟩)
-- java/lang/StringUTF16.checkBoundsBeginEnd:(II[B)V
def Q_ucb3 (Z : State) (t : Addr) (k : ClassId) (x0 x1 x2 : Int32) (h0 : Heap) (v : Option Value) (h : Heap) (L : List Loc) : Prop := v = none ∧ Fr Z.heap.size L ∧ h = h0
theorem ef_ucb3 (m : MethodId) (t : Addr) : entryFrame m #[(.int 0), (.int 3), (.ref t)] 3 = mkF m 0 #[vi 0, vi 3, vr t] [] := by first | (simp [entryFrame, mkF, argsToLocals, Value.category, vi, vj, vr]; done) | rfl
set_option maxRecDepth 65536 in
set_option maxHeartbeats 40000000 in
theorem rm_ucb3 (l : Launch) {Z : State} {a0 : Array Value} (hD : Wd Z a0) (t : Addr) (k : ClassId) (x0 x1 x2 : Int32) {h0 : Heap} (O0 : Ext Z.heap h0) (V_t : Arv Z h0 t k .byte (6 : Int32) [(.int (x0.toInt8.toInt32)), (.int ((x0 >>> ((8 : Int32) &&& 31)).toInt8.toInt32)), (.int (x1.toInt8.toInt32)), (.int ((x1 >>> ((8 : Int32) &&& 31)).toInt8.toInt32)), (.int (x2.toInt8.toInt32)), (.int ((x2 >>> ((8 : Int32) &&& 31)).toInt8.toInt32))] (.int 0)) :
    Con l Z (⟨"java/lang/StringUTF16", "checkBoundsBeginEnd", "(II[B)V"⟩ : MethodName) jdk_52_method_93_code 3 none [] ({ frames := 2, cells := 0, slots := 0, locals := 29 } : Room) #[(.int 0), (.int 3), (.ref t)] h0 (Q_ucb3 Z t k x0 x1 x2 h0) := by
  refine Con.walk (plainFor_of_name pn_4) ?_
  intro p e s m below meth c T0 X0 hx hZ hby hml hown hnm hret hlk e0
  obtain ⟨hw, ⟨cz, S_CS, hcz⟩, ⟨sf, S_SF, hsf⟩, S_AD, S_HI, S_LO⟩ := id hD
  have N0 := Fr.nil Z.heap.size
  refine OEnds.cast (ef_ucb3 m t) ?_
  refine OEnds.st (S' := T0.setTop (mkF m 3 #[vi 0, vi 3, vr t] [(.ref t), (.int 3), (.int 0)])) (fun _ k => ?_) ?_
  · refine XS.iloadN X0.here hx rfl (hb hby d_jdk_52_93_0) rfl ?_
    refine XS.iloadN X0.here hx rfl (hb hby d_jdk_52_93_1) rfl ?_
    refine XS.aloadN X0.here hx rfl (hb hby d_jdk_52_93_2) rfl rfl ?_
    exact k
  obtain ⟨_, T1, h1, L1, X1, e1, hQ1, st1⟩ := callC X0 hx hZ hown (wq hw 116 rfl) (wq hw 117 rfl) (wq hw 22 rfl) (wq hw 118 rfl) (by decide) (kc := 0) (ks := 0) (Con.sb (W := 2) (rm_ulen3 l hD t k x0 x1 x2 O0 V_t) hZ (wq hw 118 rfl) (wq hw 22 rfl) (by decide) (by decide)) e0 (g := (mkF m 3 #[vi 0, vi 3, vr t] [(.ref t), (.int 3), (.int 0)])) rfl (by rw [hml]; rfl) (argsL := [(.ref t)]) (rest := [(.int 3), (.int 0)]) (lenOf pd_15 rfl) rfl (by show 2 * 0 + _ ≤ _; exact Nat.le_of_eq rfl) (hb hby d_jdk_52_93_3) (by decide) (by decide)
  obtain ⟨rfl, Nq1, Hq1⟩ := hQ1
  refine OEnds.st st1 ?_
  replace N0 := Fr.app N0 Nq1
  replace e1 := e1.trans Hq1
  obtain ⟨_, T2, h2, L2, X2, e2, hQ2, st2⟩ := callC X1 hx hZ hown (wq hw 119 rfl) (wq hw 120 rfl) (wq hw 8 rfl) (wq hw 121 rfl) (by decide) (kc := 0) (ks := 0) (Con.sb (W := 0) (rm_chkBE3 l hD  O0) hZ (wq hw 121 rfl) (wq hw 8 rfl) (by decide) (by decide)) e1 (g := (mkF m 6 #[vi 0, vi 3, vr t] [(.int 3), (.int 3), (.int 0)])) rfl (by rw [hml]; rfl) (argsL := [(.int 0), (.int 3), (.int 3)]) (rest := []) (lenOf pd_16 rfl) rfl (by show 2 * 0 + _ ≤ _; exact Nat.le_of_eq rfl) (hb hby d_jdk_52_93_6) (by decide) (by decide)
  obtain ⟨rfl, Nq2, Hq2⟩ := hQ2
  refine OEnds.st st2 ?_
  replace N0 := Fr.app N0 Nq2
  replace e2 := e2.trans Hq2
  exact OEnds.retV X2 hx hret hlk (hb hby d_jdk_52_93_9) (by decide) (by decide) (by rw [e2]; exact ⟨rfl, N0, rfl⟩)
-- java/lang/StringUTF16.indexOfChar:([BIII)I
def Q_uic3 (Z : State) (t : Addr) (cc : Int32) (k : ClassId) (x0 x1 x2 : Int32) (h0 : Heap) (v : Option Value) (h : Heap) (L : List Loc) : Prop := v = some (.int (-1)) ∧ Fr Z.heap.size L ∧ h = h0
theorem ef_uic3 (m : MethodId) (t : Addr) (cc : Int32) : entryFrame m #[(.ref t), (.int cc), (.int 0), (.int 3)] 4 = mkF m 0 #[vr t, vi cc, vi 0, vi 3] [] := by first | (simp [entryFrame, mkF, argsToLocals, Value.category, vi, vj, vr]; done) | rfl
set_option maxRecDepth 65536 in
set_option maxHeartbeats 40000000 in
theorem rm_uic3 (l : Launch) {Z : State} {a0 : Array Value} (hD : Wd Z a0) (t : Addr) (cc : Int32) (k : ClassId) (x0 x1 x2 : Int32) {h0 : Heap} (O0 : Ext Z.heap h0) (V_t : Arv Z h0 t k .byte (6 : Int32) [(.int (x0.toInt8.toInt32)), (.int ((x0 >>> ((8 : Int32) &&& 31)).toInt8.toInt32)), (.int (x1.toInt8.toInt32)), (.int ((x1 >>> ((8 : Int32) &&& 31)).toInt8.toInt32)), (.int (x2.toInt8.toInt32)), (.int ((x2 >>> ((8 : Int32) &&& 31)).toInt8.toInt32))] (.int 0)) (hx0 : ¬ x0 < 0 ∧ ¬ (65535 : Int32) < x0) (hx1 : ¬ x1 < 0 ∧ ¬ (65535 : Int32) < x1) (hx2 : ¬ x2 < 0 ∧ ¬ (65535 : Int32) < x2) (hn0 : ¬ x0 = cc) (hn1 : ¬ x1 = cc) (hn2 : ¬ x2 = cc) (hc : ¬ cc < 0 ∧ ¬ (127 : Int32) < cc) :
    Con l Z (⟨"java/lang/StringUTF16", "indexOfChar", "([BIII)I"⟩ : MethodName) jdk_52_method_47_code 4 (some .int) [] ({ frames := 3, cells := 0, slots := 0, locals := 43 } : Room) #[(.ref t), (.int cc), (.int 0), (.int 3)] h0 (Q_uic3 Z t cc k x0 x1 x2 h0) := by
  refine Con.walk (plainFor_of_name pn_4) ?_
  intro p e s m below meth c T0 X0 hx hZ hby hml hown hnm hret hlk e0
  obtain ⟨hw, ⟨cz, S_CS, hcz⟩, ⟨sf, S_SF, hsf⟩, S_AD, S_HI, S_LO⟩ := id hD
  have N0 := Fr.nil Z.heap.size
  refine OEnds.cast (ef_uic3 m t cc) ?_
  refine OEnds.st (S' := T0.setTop (mkF m 3 #[vr t, vi cc, vi 0, vi 3] [(.ref t), (.int 3), (.int 0)])) (fun _ k => ?_) ?_
  · refine XS.iloadN X0.here hx rfl (hb hby d_jdk_52_47_0) rfl ?_
    refine XS.iloadN X0.here hx rfl (hb hby d_jdk_52_47_1) rfl ?_
    refine XS.aloadN X0.here hx rfl (hb hby d_jdk_52_47_2) rfl rfl ?_
    exact k
  obtain ⟨_, T1, h1, L1, X1, e1, hQ1, st1⟩ := callC X0 hx hZ hown (wq hw 113 rfl) (wq hw 114 rfl) (wq hw 22 rfl) (wq hw 115 rfl) (by decide) (kc := 0) (ks := 0) (Con.sb (W := 0) (rm_ucb3 l hD t k x0 x1 x2 O0 V_t) hZ (wq hw 115 rfl) (wq hw 22 rfl) (by decide) (by decide)) e0 (g := (mkF m 3 #[vr t, vi cc, vi 0, vi 3] [(.ref t), (.int 3), (.int 0)])) rfl (by rw [hml]; rfl) (argsL := [(.int 0), (.int 3), (.ref t)]) (rest := []) (lenOf pd_17 rfl) rfl (by show 2 * 0 + _ ≤ _; exact Nat.le_of_eq rfl) (hb hby d_jdk_52_47_3) (by decide) (by decide)
  obtain ⟨rfl, Nq1, Hq1⟩ := hQ1
  refine OEnds.st st1 ?_
  replace N0 := Fr.app N0 Nq1
  replace e1 := e1.trans Hq1
  refine OEnds.st (S' := T1.setTop (mkF m 10 #[vr t, vi cc, vi 0, vi 3] [(.int 3), (.int 0), (.int cc), (.ref t)])) (fun _ k => ?_) ?_
  · refine XS.aloadN X1.here hx rfl (hb hby d_jdk_52_47_6) rfl rfl ?_
    refine XS.iloadN X1.here hx rfl (hb hby d_jdk_52_47_7) rfl ?_
    refine XS.iloadN X1.here hx rfl (hb hby d_jdk_52_47_8) rfl ?_
    refine XS.iloadN X1.here hx rfl (hb hby d_jdk_52_47_9) rfl ?_
    exact k
  obtain ⟨_, T2, h2, L2, X2, e2, hQ2, st2⟩ := callC X1 hx hZ hown (wq hw 127 rfl) (wq hw 128 rfl) (wq hw 22 rfl) (wq hw 129 rfl) (by decide) (kc := 0) (ks := 0) (Con.sb (W := 0) (rm_unsafe3 l hD t cc k x0 x1 x2 O0 V_t hx0 hx1 hx2 hn0 hn1 hn2 hc) hZ (wq hw 129 rfl) (wq hw 22 rfl) (by decide) (by decide)) e1 (g := (mkF m 10 #[vr t, vi cc, vi 0, vi 3] [(.int 3), (.int 0), (.int cc), (.ref t)])) rfl (by rw [hml]; rfl) (argsL := [(.ref t), (.int cc), (.int 0), (.int 3)]) (rest := []) (lenOf pd_14 rfl) rfl (by show 2 * 0 + _ ≤ _; exact Nat.le_of_eq rfl) (hb hby d_jdk_52_47_10) (by decide) (by decide)
  obtain ⟨rfl, Nq2, Hq2⟩ := hQ2
  refine OEnds.st st2 ?_
  replace N0 := Fr.app N0 Nq2
  replace e2 := e2.trans Hq2
  exact OEnds.ret X2 hx hret hlk rfl (Or.inl ⟨rfl, by simp, _, rfl⟩) (hb hby d_jdk_52_47_13) (by decide) (by decide) (by rw [e2]; exact ⟨rfl, N0, rfl⟩)
-- java/lang/StringUTF16.indexOf:([BIII)I
def Q_uio3 (Z : State) (t : Addr) (cc : Int32) (k : ClassId) (x0 x1 x2 : Int32) (h0 : Heap) (v : Option Value) (h : Heap) (L : List Loc) : Prop := v = some (.int (-1)) ∧ Fr Z.heap.size L ∧ h = h0
theorem ef_uio3 (m : MethodId) (t : Addr) (cc : Int32) : entryFrame m #[(.ref t), (.int cc), (.int 0), (.int 3)] 4 = mkF m 0 #[vr t, vi cc, vi 0, vi 3] [] := by first | (simp [entryFrame, mkF, argsToLocals, Value.category, vi, vj, vr]; done) | rfl
set_option maxRecDepth 65536 in
set_option maxHeartbeats 40000000 in
theorem rm_uio3 (l : Launch) {Z : State} {a0 : Array Value} (hD : Wd Z a0) (t : Addr) (cc : Int32) (k : ClassId) (x0 x1 x2 : Int32) {h0 : Heap} (O0 : Ext Z.heap h0) (V_t : Arv Z h0 t k .byte (6 : Int32) [(.int (x0.toInt8.toInt32)), (.int ((x0 >>> ((8 : Int32) &&& 31)).toInt8.toInt32)), (.int (x1.toInt8.toInt32)), (.int ((x1 >>> ((8 : Int32) &&& 31)).toInt8.toInt32)), (.int (x2.toInt8.toInt32)), (.int ((x2 >>> ((8 : Int32) &&& 31)).toInt8.toInt32))] (.int 0)) (hx0 : ¬ x0 < 0 ∧ ¬ (65535 : Int32) < x0) (hx1 : ¬ x1 < 0 ∧ ¬ (65535 : Int32) < x1) (hx2 : ¬ x2 < 0 ∧ ¬ (65535 : Int32) < x2) (hn0 : ¬ x0 = cc) (hn1 : ¬ x1 = cc) (hn2 : ¬ x2 = cc) (hc : ¬ cc < 0 ∧ ¬ (127 : Int32) < cc) :
    Con l Z (⟨"java/lang/StringUTF16", "indexOf", "([BIII)I"⟩ : MethodName) jdk_52_method_40_code 4 (some .int) [] ({ frames := 4, cells := 0, slots := 0, locals := 58 } : Room) #[(.ref t), (.int cc), (.int 0), (.int 3)] h0 (Q_uio3 Z t cc k x0 x1 x2 h0) := by
  refine Con.walk (plainFor_of_name pn_4) ?_
  intro p e s m below meth c T0 X0 hx hZ hby hml hown hnm hret hlk e0
  obtain ⟨hw, ⟨cz, S_CS, hcz⟩, ⟨sf, S_SF, hsf⟩, S_AD, S_HI, S_LO⟩ := id hD
  have N0 := Fr.nil Z.heap.size
  refine OEnds.cast (ef_uio3 m t cc) ?_
  refine OEnds.st (S' := T0.setTop (mkF m 2 #[vr t, vi cc, vi 0, vi 3] [(.int 0), (.int 0)])) (fun _ k => ?_) ?_
  · refine XS.iloadN X0.here hx rfl (hb hby d_jdk_52_40_0) rfl ?_
    refine XS.iconst X0.here hx rfl (hb hby d_jdk_52_40_1) ?_
    exact k
  obtain ⟨_, T1, h1, L1, X1, e1, hQ1, st1⟩ := callC X0 hx hZ hown (wq hw 107 rfl) (wq hw 75 rfl) (wq hw 76 rfl) (wq hw 77 rfl) (by decide) (kc := 0) (ks := 0) (Con.sb (W := 0) (rm_max00 l hD  O0) hZ (wq hw 77 rfl) (wq hw 76 rfl) (by decide) (by decide)) e0 (g := (mkF m 2 #[vr t, vi cc, vi 0, vi 3] [(.int 0), (.int 0)])) rfl (by rw [hml]; rfl) (argsL := [(.int 0), (.int 0)]) (rest := []) (lenOf pd_10 rfl) rfl (by show 2 * 0 + _ ≤ _; exact Nat.le_of_eq rfl) (hb hby d_jdk_52_40_2) (by decide) (by decide)
  obtain ⟨rfl, Nq1, Hq1⟩ := hQ1
  refine OEnds.st st1 ?_
  replace N0 := Fr.app N0 Nq1
  replace e1 := e1.trans Hq1
  refine OEnds.st (S' := T1.setTop (mkF m 8 #[vr t, vi cc, vi 0, vi 3] [(.ref t), (.int 3)])) (fun _ k => ?_) ?_
  · refine XS.istoreN X1.here hx rfl (hb hby d_jdk_52_40_5) rfl (l' := #[vr t, vi cc, vi 0, vi 3]) rfl ?_
    refine XS.iloadN X1.here hx rfl (hb hby d_jdk_52_40_6) rfl ?_
    refine XS.aloadN X1.here hx rfl (hb hby d_jdk_52_40_7) rfl rfl ?_
    exact k
  obtain ⟨cl_t_2, Ar_t_2, q_t_2, S_t_2, N_t_2, H_t_2, G_t_2⟩ := id V_t
  refine OEnds.st (S' := T1.setTop (mkF m 9 #[vr t, vi cc, vi 0, vi 3] [(.int 6), (.int 3)])) (fun tg kq9 => X1.arraylength hx (by rw [e1]; exact Ar_t_2.1) (State.isArrayOf_alike hZ.alike Ar_t_2.2.1) (g := (mkF m 8 #[vr t, vi cc, vi 0, vi 3] [(.ref t), (.int 3)])) rfl rfl (hb hby d_jdk_52_40_8) tg (by rw [len_of S_t_2 N_t_2]; exact kq9)) ?_
  refine OEnds.st (S' := T1.setTop (mkF m 11 #[vr t, vi cc, vi 0, vi 3] [(.int 3), (.int 3)])) (fun _ k => ?_) ?_
  · refine XS.iconst X1.here hx rfl (hb hby d_jdk_52_40_9) ?_
    refine XS.ishr X1.here hx rfl (hb hby d_jdk_52_40_10) rfl ?_
    exact k
  obtain ⟨_, T3, h3, L3, X3, e3, hQ3, st3⟩ := callC X1 hx hZ hown (wq hw 108 rfl) (wq hw 79 rfl) (wq hw 76 rfl) (wq hw 80 rfl) (by decide) (kc := 0) (ks := 0) (Con.sb (W := 0) (rm_minSame l hD (3 : Int32) O0) hZ (wq hw 80 rfl) (wq hw 76 rfl) (by decide) (by decide)) e1 (g := (mkF m 11 #[vr t, vi cc, vi 0, vi 3] [(.int 3), (.int 3)])) rfl (by rw [hml]; rfl) (argsL := [(.int 3), (.int 3)]) (rest := []) (lenOf pd_10 rfl) rfl (by show 2 * 0 + _ ≤ _; exact Nat.le_of_eq rfl) (hb hby d_jdk_52_40_11) (by decide) (by decide)
  obtain ⟨rfl, Nq3, Hq3⟩ := hQ3
  refine OEnds.st st3 ?_
  replace N0 := Fr.app N0 Nq3
  replace e3 := e3.trans Hq3
  refine OEnds.st (S' := T3.setTop (mkF m 32 #[vr t, vi cc, vi 0, vi 3] [(.int 3), (.int 0), (.int cc), (.ref t)])) (fun _ k => ?_) ?_
  · refine XS.istoreN X3.here hx rfl (hb hby d_jdk_52_40_14) rfl (l' := #[vr t, vi cc, vi 0, vi 3]) rfl ?_
    refine XS.iloadN X3.here hx rfl (hb hby d_jdk_52_40_15) rfl ?_
    refine XS.iloadN X3.here hx rfl (hb hby d_jdk_52_40_16) rfl ?_
    refine XS.icmpYes X3.here hx rfl (pc0 := 17) (pc' := 22) rfl (hb hby d_jdk_52_40_17) rfl (tlt (by decide)).1 (by decide) (by decide) ?_
    show Steps p.tables e below (T3.setTop (mkF m 22 #[vr t, vi cc, vi 0, vi 3] [])) _
    refine XS.iloadN X3.here hx rfl (hb hby d_jdk_52_40_22) rfl ?_
    refine X3.ldcInt hx hown (mvT hZ (wq hw 109 rfl)) (g := (mkF m 23 #[vr t, vi cc, vi 0, vi 3] [(.int cc)])) rfl (hb hby d_jdk_52_40_23) _ ?_
    refine XS.icmpNo X3.here hx rfl (hb hby d_jdk_52_40_25) rfl (tlt (lt64k hc.2)).2.1 ?_
    refine XS.aloadN X3.here hx rfl (hb hby d_jdk_52_40_28) rfl rfl ?_
    show Steps p.tables e below (T3.setTop (mkF m 29 #[vr t, vi cc, vi 0, vi 3] [(.ref t)])) _
    refine XS.iloadN X3.here hx rfl (hb hby d_jdk_52_40_29) rfl ?_
    refine XS.iloadN X3.here hx rfl (hb hby d_jdk_52_40_30) rfl ?_
    refine XS.iloadN X3.here hx rfl (hb hby d_jdk_52_40_31) rfl ?_
    exact k
  obtain ⟨_, T4, h4, L4, X4, e4, hQ4, st4⟩ := callC X3 hx hZ hown (wq hw 110 rfl) (wq hw 111 rfl) (wq hw 22 rfl) (wq hw 112 rfl) (by decide) (kc := 0) (ks := 0) (Con.sb (W := 0) (rm_uic3 l hD t cc k x0 x1 x2 O0 V_t hx0 hx1 hx2 hn0 hn1 hn2 hc) hZ (wq hw 112 rfl) (wq hw 22 rfl) (by decide) (by decide)) e3 (g := (mkF m 32 #[vr t, vi cc, vi 0, vi 3] [(.int 3), (.int 0), (.int cc), (.ref t)])) rfl (by rw [hml]; rfl) (argsL := [(.ref t), (.int cc), (.int 0), (.int 3)]) (rest := []) (lenOf pd_14 rfl) rfl (by show 2 * 0 + _ ≤ _; exact Nat.le_of_eq rfl) (hb hby d_jdk_52_40_32) (by decide) (by decide)
  obtain ⟨rfl, Nq4, Hq4⟩ := hQ4
  refine OEnds.st st4 ?_
  replace N0 := Fr.app N0 Nq4
  replace e4 := e4.trans Hq4
  exact OEnds.ret X4 hx hret hlk rfl (Or.inl ⟨rfl, by simp, _, rfl⟩) (hb hby d_jdk_52_40_35) (by decide) (by decide) (by rw [e4]; exact ⟨rfl, N0, rfl⟩)
-- java/lang/String.length:()I
def Q_sLen3_1 (Z : State) (a : Addr) (t : Addr) (k : ClassId) (x0 x1 x2 : Int32) (h0 : Heap) (v : Option Value) (h : Heap) (L : List Loc) : Prop := v = some (.int 3) ∧ Fr Z.heap.size L ∧ h = h0
theorem ef_sLen3_1 (m : MethodId) (a : Addr) : entryFrame m #[(.ref a)] 1 = mkF m 0 #[vr a] [] := by first | (simp [entryFrame, mkF, argsToLocals, Value.category, vi, vj, vr]; done) | rfl
set_option maxRecDepth 65536 in
set_option maxHeartbeats 40000000 in
theorem rm_sLen3_1 (l : Launch) {Z : State} {a0 : Array Value} (hD : Wd Z a0) (a : Addr) (t : Addr) (k : ClassId) (x0 x1 x2 : Int32) {h0 : Heap} (O0 : Ext Z.heap h0) (E_a : Exa Z h0 a "java/lang/String") (F_coder_a : Fld Z h0 a "java/lang/String" "coder" "B" (.int 1)) (F_value_a : Fld Z h0 a "java/lang/String" "value" "[B" (.ref t)) (V_t : Arv Z h0 t k .byte (6 : Int32) [(.int (x0.toInt8.toInt32)), (.int ((x0 >>> ((8 : Int32) &&& 31)).toInt8.toInt32)), (.int (x1.toInt8.toInt32)), (.int ((x1 >>> ((8 : Int32) &&& 31)).toInt8.toInt32)), (.int (x2.toInt8.toInt32)), (.int ((x2 >>> ((8 : Int32) &&& 31)).toInt8.toInt32))] (.int 0)) :
    Con l Z (⟨"java/lang/String", "length", "()I"⟩ : MethodName) jdk_42_method_54_code 1 (some .int) [] ({ frames := 1, cells := 0, slots := 0, locals := 13 } : Room) #[(.ref a)] h0 (Q_sLen3_1 Z a t k x0 x1 x2 h0) := by
  refine Con.walk (plainFor_of_name pn_1) ?_
  intro p e s m below meth c T0 X0 hx hZ hby hml hown hnm hret hlk e0
  obtain ⟨hw, ⟨cz, S_CS, hcz⟩, ⟨sf, S_SF, hsf⟩, S_AD, S_HI, S_LO⟩ := id hD
  have N0 := Fr.nil Z.heap.size
  refine OEnds.cast (ef_sLen3_1 m a) ?_
  refine OEnds.st (S' := T0.setTop (mkF m 1 #[vr a] [(.ref a)])) (fun _ k => ?_) ?_
  · refine XS.aloadN X0.here hx rfl (hb hby d_jdk_42_54_0) rfl rfl ?_
    exact k
  obtain ⟨T1, X1, e1, st1⟩ := getF X0 hx hZ hown (host := "") (Or.inl (wq hw 33 rfl)) Via.refl e0 F_value_a (g := (mkF m 1 #[vr a] [(.ref a)])) rfl rfl (hb hby d_jdk_42_54_1)
  refine OEnds.st st1 ?_
  obtain ⟨cl_t_2, Ar_t_2, q_t_2, S_t_2, N_t_2, H_t_2, G_t_2⟩ := id V_t
  refine OEnds.st (S' := T1.setTop (mkF m 5 #[vr a] [(.int 6)])) (fun tg kq9 => X1.arraylength hx (by rw [e1]; exact Ar_t_2.1) (State.isArrayOf_alike hZ.alike Ar_t_2.2.1) (g := (mkF m 4 #[vr a] [(.ref t)])) rfl rfl (hb hby d_jdk_42_54_4) tg (by rw [len_of S_t_2 N_t_2]; exact kq9)) ?_
  refine OEnds.st (S' := T1.setTop (mkF m 6 #[vr a] [(.ref a), (.int 6)])) (fun _ k => ?_) ?_
  · refine XS.aloadN X1.here hx rfl (hb hby d_jdk_42_54_5) rfl rfl ?_
    exact k
  obtain ⟨_, T3, h3, L3, X3, e3, hQ3, st3⟩ := virtC X1 hx hZ (y := (⟨"java/lang/String", "coder", "()B"⟩ : MethodName)) (z := (⟨"java/lang/String", "coder", "()B"⟩ : MethodName)) hown (wq hw 62 rfl) (wq hw 63 rfl) (nf_sel (args := #[]) (mvT hZ (wq hw 45 rfl)) rfl) (wq hw 65 rfl) (wq hw 64 rfl) (by decide) (kc := 0) (ks := 0) (Con.sb (W := 1) (rm_coder1 l hD a O0 F_coder_a) hZ (wq hw 66 rfl) (wq hw 8 rfl) (by decide) (by decide)) e1 E_a (g := (mkF m 6 #[vr a] [(.ref a), (.int 6)])) rfl (by rw [hml]; rfl) (argsL := []) (rest := [(.int 6)]) (lenOf pd_11 rfl) rfl (by show 2 * 0 + _ ≤ _; exact Nat.le_of_eq rfl) (hb hby d_jdk_42_54_6) (by decide) (by decide)
  obtain ⟨rfl, Nq3, Hq3⟩ := hQ3
  refine OEnds.st st3 ?_
  replace N0 := Fr.app N0 Nq3
  replace e3 := e3.trans Hq3
  refine OEnds.st (S' := T3.setTop (mkF m 10 #[vr a] [(.int 3)])) (fun _ k => ?_) ?_
  · refine XS.ishr X3.here hx rfl (hb hby d_jdk_42_54_9) rfl ?_
    exact k
  exact OEnds.ret X3 hx hret hlk rfl (Or.inl ⟨rfl, by simp, _, rfl⟩) (hb hby d_jdk_42_54_10) (by decide) (by decide) (by rw [e3]; exact ⟨rfl, N0, rfl⟩)
-- java/lang/String.indexOf:(II)I
def Q_io2_3_1 (Z : State) (a : Addr) (cc : Int32) (t : Addr) (k : ClassId) (x0 x1 x2 : Int32) (h0 : Heap) (v : Option Value) (h : Heap) (L : List Loc) : Prop := v = some (.int (-1)) ∧ Fr Z.heap.size L ∧ h = h0
theorem ef_io2_3_1 (m : MethodId) (a : Addr) (cc : Int32) : entryFrame m #[(.ref a), (.int cc), (.int 0)] 3 = mkF m 0 #[vr a, vi cc, vi 0] [] := by first | (simp [entryFrame, mkF, argsToLocals, Value.category, vi, vj, vr]; done) | rfl
set_option maxRecDepth 65536 in
set_option maxHeartbeats 40000000 in
theorem rm_io2_3_1 (l : Launch) {Z : State} {a0 : Array Value} (hD : Wd Z a0) (a : Addr) (cc : Int32) (t : Addr) (k : ClassId) (x0 x1 x2 : Int32) {h0 : Heap} (O0 : Ext Z.heap h0) (E_a : Exa Z h0 a "java/lang/String") (F_coder_a : Fld Z h0 a "java/lang/String" "coder" "B" (.int 1)) (F_value_a : Fld Z h0 a "java/lang/String" "value" "[B" (.ref t)) (V_t : Arv Z h0 t k .byte (6 : Int32) [(.int (x0.toInt8.toInt32)), (.int ((x0 >>> ((8 : Int32) &&& 31)).toInt8.toInt32)), (.int (x1.toInt8.toInt32)), (.int ((x1 >>> ((8 : Int32) &&& 31)).toInt8.toInt32)), (.int (x2.toInt8.toInt32)), (.int ((x2 >>> ((8 : Int32) &&& 31)).toInt8.toInt32))] (.int 0)) (hx0 : ¬ x0 < 0 ∧ ¬ (65535 : Int32) < x0) (hx1 : ¬ x1 < 0 ∧ ¬ (65535 : Int32) < x1) (hx2 : ¬ x2 < 0 ∧ ¬ (65535 : Int32) < x2) (hn0 : ¬ x0 = cc) (hn1 : ¬ x1 = cc) (hn2 : ¬ x2 = cc) (hc : ¬ cc < 0 ∧ ¬ (127 : Int32) < cc) :
    Con l Z (⟨"java/lang/String", "indexOf", "(II)I"⟩ : MethodName) jdk_42_method_80_code 3 (some .int) [] ({ frames := 5, cells := 0, slots := 0, locals := 73 } : Room) #[(.ref a), (.int cc), (.int 0)] h0 (Q_io2_3_1 Z a cc t k x0 x1 x2 h0) := by
  refine Con.walk (plainFor_of_name pn_1) ?_
  intro p e s m below meth c T0 X0 hx hZ hby hml hown hnm hret hlk e0
  obtain ⟨hw, ⟨cz, S_CS, hcz⟩, ⟨sf, S_SF, hsf⟩, S_AD, S_HI, S_LO⟩ := id hD
  have N0 := Fr.nil Z.heap.size
  refine OEnds.cast (ef_io2_3_1 m a cc) ?_
  refine OEnds.st (S' := T0.setTop (mkF m 1 #[vr a, vi cc, vi 0] [(.ref a)])) (fun _ k => ?_) ?_
  · refine XS.aloadN X0.here hx rfl (hb hby d_jdk_42_80_0) rfl rfl ?_
    exact k
  obtain ⟨_, T1, h1, L1, X1, e1, hQ1, st1⟩ := virtC X0 hx hZ (y := (⟨"java/lang/String", "isLatin1", "()Z"⟩ : MethodName)) (z := (⟨"java/lang/String", "isLatin1", "()Z"⟩ : MethodName)) hown (wq hw 52 rfl) (wq hw 53 rfl) (nf_sel (args := #[]) (mvT hZ (wq hw 45 rfl)) rfl) (wq hw 55 rfl) (wq hw 54 rfl) (by decide) (kc := 0) (ks := 0) (Con.sb (W := 0) (rm_isLat1 l hD a O0 F_coder_a) hZ (wq hw 56 rfl) (wq hw 8 rfl) (by decide) (by decide)) e0 E_a (g := (mkF m 1 #[vr a, vi cc, vi 0] [(.ref a)])) rfl (by rw [hml]; rfl) (argsL := []) (rest := []) (lenOf pd_12 rfl) rfl (by show 2 * 0 + _ ≤ _; exact Nat.le_of_eq rfl) (hb hby d_jdk_42_80_1) (by decide) (by decide)
  obtain ⟨rfl, Nq1, Hq1⟩ := hQ1
  refine OEnds.st st1 ?_
  replace N0 := Fr.app N0 Nq1
  replace e1 := e1.trans Hq1
  refine OEnds.st (S' := T1.setTop (mkF m 24 #[vr a, vi cc, vi 0] [(.ref a)])) (fun _ k => ?_) ?_
  · refine XS.ifYes X1.here hx rfl (pc0 := 4) (pc' := 23) rfl (hb hby d_jdk_42_80_4) rfl ((if0 _ _).trans (teq (by decide)).1) (by decide) (by decide) ?_
    refine XS.aloadN X1.here hx rfl (hb hby d_jdk_42_80_23) rfl rfl ?_
    exact k
  obtain ⟨T2, X2, e2, st2⟩ := getF X1 hx hZ hown (host := "") (Or.inl (wq hw 33 rfl)) Via.refl e1 F_value_a (g := (mkF m 24 #[vr a, vi cc, vi 0] [(.ref a)])) rfl rfl (hb hby d_jdk_42_80_24)
  refine OEnds.st st2 ?_
  refine OEnds.st (S' := T2.setTop (mkF m 30 #[vr a, vi cc, vi 0] [(.ref a), (.int 0), (.int cc), (.ref t)])) (fun _ k => ?_) ?_
  · refine XS.iloadN X2.here hx rfl (hb hby d_jdk_42_80_27) rfl ?_
    refine XS.iloadN X2.here hx rfl (hb hby d_jdk_42_80_28) rfl ?_
    refine XS.aloadN X2.here hx rfl (hb hby d_jdk_42_80_29) rfl rfl ?_
    exact k
  obtain ⟨_, T3, h3, L3, X3, e3, hQ3, st3⟩ := virtC X2 hx hZ (y := (⟨"java/lang/String", "length", "()I"⟩ : MethodName)) (z := (⟨"java/lang/String", "length", "()I"⟩ : MethodName)) hown (wq hw 57 rfl) (wq hw 58 rfl) (nf_sel (args := #[]) (mvT hZ (wq hw 45 rfl)) rfl) (wq hw 60 rfl) (wq hw 59 rfl) (by decide) (kc := 0) (ks := 0) (Con.sb (W := 3) (rm_sLen3_1 l hD a t k x0 x1 x2 O0 E_a F_coder_a F_value_a V_t) hZ (wq hw 61 rfl) (wq hw 8 rfl) (by decide) (by decide)) e2 E_a (g := (mkF m 30 #[vr a, vi cc, vi 0] [(.ref a), (.int 0), (.int cc), (.ref t)])) rfl (by rw [hml]; rfl) (argsL := []) (rest := [(.int 0), (.int cc), (.ref t)]) (lenOf pd_13 rfl) rfl (by show 2 * 0 + _ ≤ _; exact Nat.le_of_eq rfl) (hb hby d_jdk_42_80_30) (by decide) (by decide)
  obtain ⟨rfl, Nq3, Hq3⟩ := hQ3
  refine OEnds.st st3 ?_
  replace N0 := Fr.app N0 Nq3
  replace e3 := e3.trans Hq3
  obtain ⟨_, T4, h4, L4, X4, e4, hQ4, st4⟩ := callC X3 hx hZ hown (wq hw 104 rfl) (wq hw 105 rfl) (wq hw 22 rfl) (wq hw 106 rfl) (by decide) (kc := 0) (ks := 0) (Con.sb (W := 0) (rm_uio3 l hD t cc k x0 x1 x2 O0 V_t hx0 hx1 hx2 hn0 hn1 hn2 hc) hZ (wq hw 106 rfl) (wq hw 22 rfl) (by decide) (by decide)) e3 (g := (mkF m 33 #[vr a, vi cc, vi 0] [(.int 3), (.int 0), (.int cc), (.ref t)])) rfl (by rw [hml]; rfl) (argsL := [(.ref t), (.int cc), (.int 0), (.int 3)]) (rest := []) (lenOf pd_14 rfl) rfl (by show 2 * 0 + _ ≤ _; exact Nat.le_of_eq rfl) (hb hby d_jdk_42_80_33) (by decide) (by decide)
  obtain ⟨rfl, Nq4, Hq4⟩ := hQ4
  refine OEnds.st st4 ?_
  replace N0 := Fr.app N0 Nq4
  replace e4 := e4.trans Hq4
  exact OEnds.ret X4 hx hret hlk rfl (Or.inl ⟨rfl, by simp, _, rfl⟩) (hb hby d_jdk_42_80_36) (by decide) (by decide) (by rw [e4]; exact ⟨rfl, N0, rfl⟩)
-- java/lang/String.indexOf:(I)I
def Q_io1_3_1 (Z : State) (a : Addr) (cc : Int32) (t : Addr) (k : ClassId) (x0 x1 x2 : Int32) (h0 : Heap) (v : Option Value) (h : Heap) (L : List Loc) : Prop := v = some (.int (-1)) ∧ Fr Z.heap.size L ∧ h = h0
theorem ef_io1_3_1 (m : MethodId) (a : Addr) (cc : Int32) : entryFrame m #[(.ref a), (.int cc)] 2 = mkF m 0 #[vr a, vi cc] [] := by first | (simp [entryFrame, mkF, argsToLocals, Value.category, vi, vj, vr]; done) | rfl
set_option maxRecDepth 65536 in
set_option maxHeartbeats 40000000 in
theorem rm_io1_3_1 (l : Launch) {Z : State} {a0 : Array Value} (hD : Wd Z a0) (a : Addr) (cc : Int32) (t : Addr) (k : ClassId) (x0 x1 x2 : Int32) {h0 : Heap} (O0 : Ext Z.heap h0) (E_a : Exa Z h0 a "java/lang/String") (F_coder_a : Fld Z h0 a "java/lang/String" "coder" "B" (.int 1)) (F_value_a : Fld Z h0 a "java/lang/String" "value" "[B" (.ref t)) (V_t : Arv Z h0 t k .byte (6 : Int32) [(.int (x0.toInt8.toInt32)), (.int ((x0 >>> ((8 : Int32) &&& 31)).toInt8.toInt32)), (.int (x1.toInt8.toInt32)), (.int ((x1 >>> ((8 : Int32) &&& 31)).toInt8.toInt32)), (.int (x2.toInt8.toInt32)), (.int ((x2 >>> ((8 : Int32) &&& 31)).toInt8.toInt32))] (.int 0)) (hx0 : ¬ x0 < 0 ∧ ¬ (65535 : Int32) < x0) (hx1 : ¬ x1 < 0 ∧ ¬ (65535 : Int32) < x1) (hx2 : ¬ x2 < 0 ∧ ¬ (65535 : Int32) < x2) (hn0 : ¬ x0 = cc) (hn1 : ¬ x1 = cc) (hn2 : ¬ x2 = cc) (hc : ¬ cc < 0 ∧ ¬ (127 : Int32) < cc) :
    Con l Z (⟨"java/lang/String", "indexOf", "(I)I"⟩ : MethodName) jdk_42_method_79_code 2 (some .int) [] ({ frames := 6, cells := 0, slots := 0, locals := 87 } : Room) #[(.ref a), (.int cc)] h0 (Q_io1_3_1 Z a cc t k x0 x1 x2 h0) := by
  refine Con.walk (plainFor_of_name pn_1) ?_
  intro p e s m below meth c T0 X0 hx hZ hby hml hown hnm hret hlk e0
  obtain ⟨hw, ⟨cz, S_CS, hcz⟩, ⟨sf, S_SF, hsf⟩, S_AD, S_HI, S_LO⟩ := id hD
  have N0 := Fr.nil Z.heap.size
  refine OEnds.cast (ef_io1_3_1 m a cc) ?_
  refine OEnds.st (S' := T0.setTop (mkF m 3 #[vr a, vi cc] [(.int 0), (.int cc), (.ref a)])) (fun _ k => ?_) ?_
  · refine XS.aloadN X0.here hx rfl (hb hby d_jdk_42_79_0) rfl rfl ?_
    refine XS.iloadN X0.here hx rfl (hb hby d_jdk_42_79_1) rfl ?_
    refine XS.iconst X0.here hx rfl (hb hby d_jdk_42_79_2) ?_
    exact k
  obtain ⟨_, T1, h1, L1, X1, e1, hQ1, st1⟩ := virtC X0 hx hZ (y := (⟨"java/lang/String", "indexOf", "(II)I"⟩ : MethodName)) (z := (⟨"java/lang/String", "indexOf", "(II)I"⟩ : MethodName)) hown (wq hw 47 rfl) (wq hw 48 rfl) (nf_sel (args := #[]) (mvT hZ (wq hw 45 rfl)) rfl) (wq hw 50 rfl) (wq hw 49 rfl) (by decide) (kc := 0) (ks := 0) (Con.sb (W := 0) (rm_io2_3_1 l hD a cc t k x0 x1 x2 O0 E_a F_coder_a F_value_a V_t hx0 hx1 hx2 hn0 hn1 hn2 hc) hZ (wq hw 51 rfl) (wq hw 8 rfl) (by decide) (by decide)) e0 E_a (g := (mkF m 3 #[vr a, vi cc] [(.int 0), (.int cc), (.ref a)])) rfl (by rw [hml]; rfl) (argsL := [(.int cc), (.int 0)]) (rest := []) (lenOf pd_10 rfl) rfl (by show 2 * 0 + _ ≤ _; exact Nat.le_of_eq rfl) (hb hby d_jdk_42_79_3) (by decide) (by decide)
  obtain ⟨rfl, Nq1, Hq1⟩ := hQ1
  refine OEnds.st st1 ?_
  replace N0 := Fr.app N0 Nq1
  replace e1 := e1.trans Hq1
  exact OEnds.ret X1 hx hret hlk rfl (Or.inl ⟨rfl, by simp, _, rfl⟩) (hb hby d_jdk_42_79_6) (by decide) (by decide) (by rw [e1]; exact ⟨rfl, N0, rfl⟩)
-- com/example/exact_gate/exactgate/Names.requireOneLine:(Ljava/lang/String;Ljava/lang/String;)Ljava/lang/String;
def Q_req3_1 (Z : State) (a : Addr) (nm : Addr) (t : Addr) (k : ClassId) (x0 x1 x2 : Int32) (h0 : Heap) (v : Option Value) (h : Heap) (L : List Loc) : Prop := v = some (.ref a) ∧ Fr Z.heap.size L ∧ h = h0
theorem ef_req3_1 (m : MethodId) (a : Addr) (nm : Addr) : entryFrame m #[(.ref a), (.ref nm)] 2 = mkF m 0 #[vr a, vr nm] [] := by first | (simp [entryFrame, mkF, argsToLocals, Value.category, vi, vj, vr]; done) | rfl
set_option maxRecDepth 65536 in
set_option maxHeartbeats 40000000 in
theorem rm_req3_1 (l : Launch) {Z : State} {a0 : Array Value} (hD : Wd Z a0) (a : Addr) (nm : Addr) (t : Addr) (k : ClassId) (x0 x1 x2 : Int32) {h0 : Heap} (O0 : Ext Z.heap h0) (E_a : Exa Z h0 a "java/lang/String") (F_coder_a : Fld Z h0 a "java/lang/String" "coder" "B" (.int 1)) (F_value_a : Fld Z h0 a "java/lang/String" "value" "[B" (.ref t)) (V_t : Arv Z h0 t k .byte (6 : Int32) [(.int (x0.toInt8.toInt32)), (.int ((x0 >>> ((8 : Int32) &&& 31)).toInt8.toInt32)), (.int (x1.toInt8.toInt32)), (.int ((x1 >>> ((8 : Int32) &&& 31)).toInt8.toInt32)), (.int (x2.toInt8.toInt32)), (.int ((x2 >>> ((8 : Int32) &&& 31)).toInt8.toInt32))] (.int 0)) (hx0 : ¬ x0 < 0 ∧ ¬ (65535 : Int32) < x0) (hx1 : ¬ x1 < 0 ∧ ¬ (65535 : Int32) < x1) (hx2 : ¬ x2 < 0 ∧ ¬ (65535 : Int32) < x2) (hb0 : ¬ x0 = 10 ∧ ¬ x0 = 13) (hb1 : ¬ x1 = 10 ∧ ¬ x1 = 13) (hb2 : ¬ x2 = 10 ∧ ¬ x2 = 13) :
    Con l Z (⟨"com/example/exact_gate/exactgate/Names", "requireOneLine", "(Ljava/lang/String;Ljava/lang/String;)Ljava/lang/String;"⟩ : MethodName) prog_2_method_6_code 2 (some (.object "java/lang/String")) [] ({ frames := 7, cells := 0, slots := 0, locals := 100 } : Room) #[(.ref a), (.ref nm)] h0 (Q_req3_1 Z a nm t k x0 x1 x2 h0) := by
  refine Con.walk (plainFor_of_name pn_5) ?_
  intro p e s m below meth c T0 X0 hx hZ hby hml hown hnm hret hlk e0
  obtain ⟨hw, ⟨cz, S_CS, hcz⟩, ⟨sf, S_SF, hsf⟩, S_AD, S_HI, S_LO⟩ := id hD
  have N0 := Fr.nil Z.heap.size
  refine OEnds.cast (ef_req3_1 m a nm) ?_
  refine OEnds.st (S' := T0.setTop (mkF m 3 #[vr a, vr nm] [(.int 10), (.ref a)])) (fun _ k => ?_) ?_
  · refine XS.aloadN X0.here hx rfl (hb hby d_prog_2_6_0) rfl rfl ?_
    refine XS.bipush X0.here hx rfl (hb hby d_prog_2_6_1) ?_
    exact k
  obtain ⟨_, T1, h1, L1, X1, e1, hQ1, st1⟩ := virtC X0 hx hZ (y := (⟨"java/lang/String", "indexOf", "(I)I"⟩ : MethodName)) (z := (⟨"java/lang/String", "indexOf", "(I)I"⟩ : MethodName)) hown (wq hw 42 rfl) (wq hw 43 rfl) (nf_sel (args := #[]) (mvT hZ (wq hw 45 rfl)) rfl) (wq hw 45 rfl) (wq hw 44 rfl) (by decide) (kc := 0) (ks := 0) (Con.sb (W := 0) (rm_io1_3_1 l hD a (10 : Int32) t k x0 x1 x2 O0 E_a F_coder_a F_value_a V_t hx0 hx1 hx2 hb0.1 hb1.1 hb2.1 ⟨by decide, by decide⟩) hZ (wq hw 46 rfl) (wq hw 8 rfl) (by decide) (by decide)) e0 E_a (g := (mkF m 3 #[vr a, vr nm] [(.int 10), (.ref a)])) rfl (by rw [hml]; rfl) (argsL := [(.int 10)]) (rest := []) (lenOf pd_1 rfl) rfl (by show 2 * 0 + _ ≤ _; exact Nat.le_of_eq rfl) (hb hby d_prog_2_6_3) (by decide) (by decide)
  obtain ⟨rfl, Nq1, Hq1⟩ := hQ1
  refine OEnds.st st1 ?_
  replace N0 := Fr.app N0 Nq1
  replace e1 := e1.trans Hq1
  refine OEnds.st (S' := T1.setTop (mkF m 12 #[vr a, vr nm] [(.int 13), (.ref a)])) (fun _ k => ?_) ?_
  · refine XS.ifNo X1.here hx rfl (hb hby d_prog_2_6_6) rfl ((if0 _ _).trans (tlt (by decide)).2.1) ?_
    refine XS.aloadN X1.here hx rfl (hb hby d_prog_2_6_9) rfl rfl ?_
    refine XS.bipush X1.here hx rfl (hb hby d_prog_2_6_10) ?_
    exact k
  obtain ⟨_, T2, h2, L2, X2, e2, hQ2, st2⟩ := virtC X1 hx hZ (y := (⟨"java/lang/String", "indexOf", "(I)I"⟩ : MethodName)) (z := (⟨"java/lang/String", "indexOf", "(I)I"⟩ : MethodName)) hown (wq hw 42 rfl) (wq hw 43 rfl) (nf_sel (args := #[]) (mvT hZ (wq hw 45 rfl)) rfl) (wq hw 45 rfl) (wq hw 44 rfl) (by decide) (kc := 0) (ks := 0) (Con.sb (W := 0) (rm_io1_3_1 l hD a (13 : Int32) t k x0 x1 x2 O0 E_a F_coder_a F_value_a V_t hx0 hx1 hx2 hb0.2 hb1.2 hb2.2 ⟨by decide, by decide⟩) hZ (wq hw 46 rfl) (wq hw 8 rfl) (by decide) (by decide)) e1 E_a (g := (mkF m 12 #[vr a, vr nm] [(.int 13), (.ref a)])) rfl (by rw [hml]; rfl) (argsL := [(.int 13)]) (rest := []) (lenOf pd_1 rfl) rfl (by show 2 * 0 + _ ≤ _; exact Nat.le_of_eq rfl) (hb hby d_prog_2_6_12) (by decide) (by decide)
  obtain ⟨rfl, Nq2, Hq2⟩ := hQ2
  refine OEnds.st st2 ?_
  replace N0 := Fr.app N0 Nq2
  replace e2 := e2.trans Hq2
  refine OEnds.st (S' := T2.setTop (mkF m 33 #[vr a, vr nm] [(.ref a)])) (fun _ k => ?_) ?_
  · refine XS.ifYes X2.here hx rfl (pc0 := 15) (pc' := 32) rfl (hb hby d_prog_2_6_15) rfl ((if0 _ _).trans (tlt (by decide)).1) (by decide) (by decide) ?_
    refine XS.aloadN X2.here hx rfl (hb hby d_prog_2_6_32) rfl rfl ?_
    exact k
  exact OEnds.ret X2 hx hret hlk rfl (Or.inr (Or.inr (Or.inr (Or.inr ⟨rfl, rfl, rfl⟩)))) (hb hby d_prog_2_6_33) (by decide) (by decide) (by rw [e2]; exact ⟨rfl, N0, rfl⟩)
def Q_law (Z : State) (v : Option Value) (h : Heap) (L : List Loc) : Prop := v = some (.int 1) ∧ Fr Z.heap.size L
-- com/example/exact_gate/exactgate/NamesRequireOneLinePinLaw.law:(IIII)Z
theorem ef_law (m : MethodId) (p0 : Int32) (p1 : Int32) (p2 : Int32) (p3 : Int32) : entryFrame m #[(.int p0), (.int p1), (.int p2), (.int p3)] maxLocals = mkF m 0 #[vi p0, vi p1, vi p2, vi p3, .unset, .unset, .unset, .unset, .unset, .unset, .unset, .unset] [] := by first | (simp [entryFrame, mkF, argsToLocals, Value.category, vi, vj, vr, maxLocals]; done) | rfl
theorem pd_18 : parseMethodDescriptor "([C)V" = some ⟨[(.array .char)], none⟩ := by decide +kernel
theorem pd_19 : parseMethodDescriptor "(Ljava/lang/String;Ljava/lang/String;)Ljava/lang/String;" = some ⟨[(.object "java/lang/String"), (.object "java/lang/String")], some (.object "java/lang/String")⟩ := by decide +kernel
theorem pd_20 : parseMethodDescriptor "(C)Z" = some ⟨[.char], some .boolean⟩ := by decide +kernel
set_option maxRecDepth 65536 in
set_option maxHeartbeats 40000000 in
theorem rm_law (l : Launch) {Z : State} {a0 : Array Value} (hD : Wd Z a0) (p0 : Int32) (p1 : Int32) (p2 : Int32) (p3 : Int32) {h0 : Heap} (O0 : Ext Z.heap h0) :
    ConH l Z EL x code maxLocals ret tables_1 room_1 #[(.int p0), (.int p1), (.int p2), (.int p3)] h0 [] (Q_law Z) := by
  refine ConH.walk (plainFor_of_name pn_0) ?_
  intro p e s vm0 k0 m below meth c T0 X0 hS0 hk0 hx hZ hby hml hown hnm hret hlk e0 A0 hss
  obtain ⟨hw, ⟨cz, S_CS, hcz⟩, ⟨sf, S_SF, hsf⟩, S_AD, S_HI, S_LO⟩ := id hD
  have N0 := Fr.nil Z.heap.size
  have hEL : EW Z a0 EL := el_of hw
  have hsa : ∀ a ∈ Bundle.stringAtoms, a.before a0 Z = true := fun d hd => hw d (words_sa d hd)
  refine OEndsH.cast (ef_law m p0 p1 p2 p3) ?_
  refine OEndsH.st (S' := T0.setTop (mkF m 8 #[vi p0, vi p1, vi p2, vi p3, vi ((p3 &&& (2147483647 : Int32)) % (4 : Int32)), .unset, .unset, .unset, .unset, .unset, .unset, .unset] [])) (fun _ k => ?_) ?_
  · refine XS.iloadN X0.here hx rfl (hb hby at_0) rfl ?_
    refine X0.ldcInt hx hown (mvT hZ (wq hw 0 rfl)) (g := (mkF m 1 #[vi p0, vi p1, vi p2, vi p3, .unset, .unset, .unset, .unset, .unset, .unset, .unset, .unset] [(.int p3)])) rfl (hb hby at_1) _ ?_
    refine XS.iand X0.here hx rfl (hb hby at_3) rfl ?_
    refine XS.iconst X0.here hx rfl (hb hby at_4) ?_
    show Steps p.tables e below (T0.setTop (mkF m 5 #[vi p0, vi p1, vi p2, vi p3, .unset, .unset, .unset, .unset, .unset, .unset, .unset, .unset] [(.int 4), (.int (p3 &&& (2147483647 : Int32)))])) _
    refine iremM X0 hx rfl (hb hby at_5) rfl (by decide) ?_
    refine XS.istore X0.here hx rfl (hb hby at_6) rfl (l' := #[vi p0, vi p1, vi p2, vi p3, vi ((p3 &&& (2147483647 : Int32)) % (4 : Int32)), .unset, .unset, .unset, .unset, .unset, .unset, .unset]) rfl ?_
    exact k
  generalize hg_ln : ((p3 &&& (2147483647 : Int32)) % (4 : Int32)) = ln
  have hln : ln = 0 ∨ ln = 1 ∨ ln = 2 ∨ ln = 3 := hg_ln ▸ mod4 _
  refine OEndsH.st (S' := T0.setTop (mkF m 12 #[vi p0, vi p1, vi p2, vi p3, vi ln, vi (p0.toUInt32.toUInt16.toUInt32.toInt32), .unset, .unset, .unset, .unset, .unset, .unset] [])) (fun _ k => ?_) ?_
  · refine XS.iloadN X0.here hx rfl (hb hby at_8) rfl ?_
    refine XS.i2c X0.here hx rfl (hb hby at_9) rfl ?_
    refine XS.istore X0.here hx rfl (hb hby at_10) rfl (l' := #[vi p0, vi p1, vi p2, vi p3, vi ln, vi (p0.toUInt32.toUInt16.toUInt32.toInt32), .unset, .unset, .unset, .unset, .unset, .unset]) rfl ?_
    exact k
  generalize hg_x0 : (p0.toUInt32.toUInt16.toUInt32.toInt32) = x0
  have hx0 : ¬ x0 < 0 ∧ ¬ (65535 : Int32) < x0 := hg_x0 ▸ i2c16
  refine OEndsH.st (S' := T0.setTop (mkF m 16 #[vi p0, vi p1, vi p2, vi p3, vi ln, vi x0, vi (p1.toUInt32.toUInt16.toUInt32.toInt32), .unset, .unset, .unset, .unset, .unset] [])) (fun _ k => ?_) ?_
  · refine XS.iloadN X0.here hx rfl (hb hby at_12) rfl ?_
    refine XS.i2c X0.here hx rfl (hb hby at_13) rfl ?_
    refine XS.istore X0.here hx rfl (hb hby at_14) rfl (l' := #[vi p0, vi p1, vi p2, vi p3, vi ln, vi x0, vi (p1.toUInt32.toUInt16.toUInt32.toInt32), .unset, .unset, .unset, .unset, .unset]) rfl ?_
    exact k
  generalize hg_x1 : (p1.toUInt32.toUInt16.toUInt32.toInt32) = x1
  have hx1 : ¬ x1 < 0 ∧ ¬ (65535 : Int32) < x1 := hg_x1 ▸ i2c16
  refine OEndsH.st (S' := T0.setTop (mkF m 20 #[vi p0, vi p1, vi p2, vi p3, vi ln, vi x0, vi x1, vi (p2.toUInt32.toUInt16.toUInt32.toInt32), .unset, .unset, .unset, .unset] [])) (fun _ k => ?_) ?_
  · refine XS.iloadN X0.here hx rfl (hb hby at_16) rfl ?_
    refine XS.i2c X0.here hx rfl (hb hby at_17) rfl ?_
    refine XS.istore X0.here hx rfl (hb hby at_18) rfl (l' := #[vi p0, vi p1, vi p2, vi p3, vi ln, vi x0, vi x1, vi (p2.toUInt32.toUInt16.toUInt32.toInt32), .unset, .unset, .unset, .unset]) rfl ?_
    exact k
  generalize hg_x2 : (p2.toUInt32.toUInt16.toUInt32.toInt32) = x2
  have hx2 : ¬ x2 < 0 ∧ ¬ (65535 : Int32) < x2 := hg_x2 ▸ i2c16
  rcases hln with rfl | rfl | rfl | rfl
  · refine OEndsH.st (S' := T0.setTop (mkF m 87 #[vi p0, vi p1, vi p2, vi p3, vi 0, vi x0, vi x1, vi x2, vi 0, .unset, .unset, .unset] [(.int 0)])) (fun _ k => ?_) ?_
    · refine XS.iconst X0.here hx rfl (hb hby at_20) ?_
      refine XS.istore X0.here hx rfl (hb hby at_21) rfl (l' := #[vi p0, vi p1, vi p2, vi p3, vi 0, vi x0, vi x1, vi x2, vi 0, .unset, .unset, .unset]) rfl ?_
      refine XS.iload X0.here hx rfl (hb hby at_23) rfl ?_
      refine XS.iconst X0.here hx rfl (hb hby at_25) ?_
      show Steps p.tables e below (T0.setTop (mkF m 26 #[vi p0, vi p1, vi p2, vi p3, vi 0, vi x0, vi x1, vi x2, vi 0, .unset, .unset, .unset] [(.int 1), (.int 0)])) _
      refine XS.icmpYes X0.here hx rfl (pc0 := 26) (pc' := 40) rfl (hb hby at_26) rfl (tlt (by decide)).1 (by decide) (by decide) ?_
      refine XS.iload X0.here hx rfl (hb hby at_40) rfl ?_
      refine XS.iconst X0.here hx rfl (hb hby at_42) ?_
      refine XS.icmpYes X0.here hx rfl (pc0 := 43) (pc' := 57) rfl (hb hby at_43) rfl (tlt (by decide)).1 (by decide) (by decide) ?_
      show Steps p.tables e below (T0.setTop (mkF m 57 #[vi p0, vi p1, vi p2, vi p3, vi 0, vi x0, vi x1, vi x2, vi 0, .unset, .unset, .unset] [])) _
      refine XS.iload X0.here hx rfl (hb hby at_57) rfl ?_
      refine XS.iconst X0.here hx rfl (hb hby at_59) ?_
      refine XS.icmpYes X0.here hx rfl (pc0 := 60) (pc' := 74) rfl (hb hby at_60) rfl (tlt (by decide)).1 (by decide) (by decide) ?_
      refine XS.iload X0.here hx rfl (hb hby at_74) rfl ?_
      show Steps p.tables e below (T0.setTop (mkF m 76 #[vi p0, vi p1, vi p2, vi p3, vi 0, vi x0, vi x1, vi x2, vi 0, .unset, .unset, .unset] [(.int 0)])) _
      refine XS.ifYes X0.here hx rfl (pc0 := 76) (pc' := 81) rfl (hb hby at_76) rfl ((if0 _ _).trans (teq (by decide)).1) (by decide) (by decide) ?_
      refine XS.iload X0.here hx rfl (hb hby at_81) rfl ?_
      refine XS.ifNo X0.here hx rfl (hb hby at_83) rfl ((if0 _ _).trans (teq (by decide)).2) ?_
      refine XS.iconst X0.here hx rfl (hb hby at_86) ?_
      exact k
    obtain ⟨T1, h1, k1, X1, e1, E1, A1, st1⟩ := newP X0 hx hZ (wq hw 5 rfl) e0 (g := (mkF m 87 #[vi p0, vi p1, vi p2, vi p3, vi 0, vi x0, vi x1, vi x2, vi 0, .unset, .unset, .unset] [(.int 0)])) rfl (hb hby at_87) rfl (by decide) (cap := 0) (by decide) (by decide) (by decide) (by decide)
    obtain ⟨b1, g1⟩ : ∃ z, z = h0.size := ⟨_, rfl⟩
    rw [← g1] at A1 st1
    refine OEndsH.st st1 ?_
    have ge_b1 : Z.heap.size ≤ b1 := Nat.le_trans O0.1 (Nat.le_of_eq g1.symm)
    have S_b1 : Safe Z EL vm0 h0 b1 := Safe.new (Nat.le_of_eq g1.symm)
    have S_b1' : Safe Z EL vm0 h1 b1 := Safe.ext E1 A0.1 S_b1
    have A' : CHr Z EL s.vm s.heap vm0 h1 := A0.trans (CHr.ext E1 A0.1)
    replace S_b1 := S_b1'
    replace A0 := A'
    replace hk0 := Nat.le_trans hk0 E1.1
    replace O0 : Ext Z.heap h1 := ext_trans O0 E1
    have V_b1 : Arv Z h1 b1 k1 .char (0 : Int32) [] (.int 0) := Arv.new A1 (by decide)
    refine OEndsH.st (S' := T1.setTop (mkF m 157 #[vi p0, vi p1, vi p2, vi p3, vi 0, vi x0, vi x1, vi x2, vi 0, vr b1, .unset, .unset] [])) (fun _ k => ?_) ?_
    · refine XS.astore X1.here hx rfl (hb hby at_89) rfl rfl (l' := #[vi p0, vi p1, vi p2, vi p3, vi 0, vi x0, vi x1, vi x2, vi 0, vr b1, .unset, .unset]) rfl ?_
      refine XS.goto X1.here hx rfl (pc0 := 91) (pc' := 157) rfl (hb hby at_91) (by decide) (by decide) ?_
      exact k
    obtain ⟨T2, h2, X2, e2, E2, A2, D2, U2, st2⟩ := newO X1 hx hZ hown (wq hw 6 rfl) (wq hw 7 rfl) (wq hw 8 rfl) e1 (g := (mkF m 157 #[vi p0, vi p1, vi p2, vi p3, vi 0, vi x0, vi x1, vi x2, vi 0, vr b1, .unset, .unset] [])) rfl (hb hby at_157) (by decide) (by decide)
    obtain ⟨b2, g2⟩ : ∃ z, z = h1.size := ⟨_, rfl⟩
    rw [← g2] at A2 D2 U2 st2
    refine OEndsH.st st2 ?_
    have ne_b1_b2 : b1 ≠ b2 := Nat.ne_of_lt (Nat.lt_of_lt_of_le V_b1.lt (Nat.le_of_eq g2.symm))
    have ge_b2 : Z.heap.size ≤ b2 := Nat.le_trans O0.1 (Nat.le_of_eq g2.symm)
    have S_b2 : Safe Z EL vm0 h1 b2 := Safe.new (Nat.le_of_eq g2.symm)
    replace V_b1 := V_b1.ext E2
    have S_b1' : Safe Z EL vm0 h2 b1 := Safe.ext E2 A0.1 S_b1
    have S_b2' : Safe Z EL vm0 h2 b2 := Safe.ext E2 A0.1 S_b2
    have A' : CHr Z EL s.vm s.heap vm0 h2 := A0.trans (CHr.ext E2 A0.1)
    replace S_b1 := S_b1'
    replace S_b2 := S_b2'
    replace A0 := A'
    replace hk0 := Nat.le_trans hk0 E2.1
    replace O0 : Ext Z.heap h2 := ext_trans O0 E2
    have F_coder_b2 : Fld Z h2 b2 "java/lang/String" "coder" "B" (.int 0) := D2 (Or.inr (wq hw 32 rfl)) (ty := .byte) (by decide)
    have F_value_b2 : Fld Z h2 b2 "java/lang/String" "value" "[B" .null := D2 (Or.inr (wq hw 34 rfl)) (ty := (.array .byte)) (by decide)
    refine OEndsH.st (S' := T2.setTop (mkF m 163 #[vi p0, vi p1, vi p2, vi p3, vi 0, vi x0, vi x1, vi x2, vi 0, vr b1, .unset, .unset] [(.ref b1), (.ref b2), (.ref b2)])) (fun _ k => ?_) ?_
    · refine XS.dup X2.here hx rfl (hb hby at_160) rfl rfl ?_
      refine XS.aload X2.here hx rfl (hb hby at_161) rfl rfl ?_
      exact k
    obtain ⟨_, T3, h3, L3, vm3, k13, X3, e3, hQ3, hS3, hk3, hZ3, hown3, Aq3, st3⟩ := specH X2 hx hZ rfl hown (wq hw 9 rfl) (wq hw 10 rfl) (wq hw 11 rfl) (by decide) (kc := 4) (ks := 8) (ConH.sb (W := 1) (rm_strE1 l hD b2 b1 k1 O0 A2 F_value_b2 F_coder_b2 ge_b2 V_b1) hZ (wq hw 11 rfl) (wq hw 8 rfl) (by decide) (by decide) hEL A0.1 (allS ⟨A2.lt, S_b2⟩ all0)) e2 hS0 hk0 (a := b2) (g := (mkF m 163 #[vi p0, vi p1, vi p2, vi p3, vi 0, vi x0, vi x1, vi x2, vi 0, vr b1, .unset, .unset] [(.ref b1), (.ref b2), (.ref b2)])) rfl (by rw [hml]; rfl) (argsL := [(.ref b1)]) (rest := [(.ref b2)]) (lenOf pd_18 rfl) rfl (by show 2 * 0 + _ ≤ _; exact Nat.le_of_eq rfl) (hb hby at_163) (by decide) (by decide)
    obtain ⟨rfl, Nq3, Kq3, Eq3, Fc3, tq3, kq3, Fv3, V3⟩ := hQ3
    replace S_b1 : Safe Z EL vm3 h3 b1 := Aq3.safe V_b1.lt S_b1
    replace S_b2 : Safe Z EL vm3 h3 b2 := Aq3.safe A2.lt S_b2
    replace A0 : CHr Z EL s.vm s.heap vm3 h3 := A0.trans Aq3
    refine OEndsH.st st3 ?_
    replace N0 := Fr.app N0 Nq3
    replace V_b1 := V_b1.keep Kq3 (ninS ne_b1_b2 nin0)
    replace A2 := A2.keep Kq3
    replace O0 : Ext Z.heap h3 := ext_keep O0 Kq3 (allS ge_b2 all0)
    refine OEndsH.st (S' := T3.setTop (mkF m 170 #[vi p0, vi p1, vi p2, vi p3, vi 0, vi x0, vi x1, vi x2, vi 0, vr b1, vr b2, .unset] [(.ref b2)])) (fun _ k => ?_) ?_
    · refine XS.astore X3.here hx rfl (hb hby at_166) rfl rfl (l' := #[vi p0, vi p1, vi p2, vi p3, vi 0, vi x0, vi x1, vi x2, vi 0, vr b1, vr b2, .unset]) rfl ?_
      refine XS.aload X3.here hx rfl (hb hby at_168) rfl rfl ?_
      exact k
    obtain ⟨b4, T4, h4, k14, t4, kb4, X4, e4, E4, hS4, hk4, hZ4, hown4, Es4, Fc4, Fv4, V4, -, -, Aq4, -, nes4, st4⟩ := ldcCH X3 hx hZ3 hown3 (wq hw 35 rfl) hsa e3 hS3 hk3 hEL (List.mem_of_getElem? (i := 1) rfl) A0.1 (vs := [(.int 110), (.int 97), (.int 109), (.int 101)]) (z := (4 : Int32)) ⟨by decide, by decide⟩ (by decide) rfl (g := (mkF m 170 #[vi p0, vi p1, vi p2, vi p3, vi 0, vi x0, vi x1, vi x2, vi 0, vr b1, vr b2, .unset] [(.ref b2)])) rfl (hb hby at_170) (n := 16) (by decide) (by decide) (by decide) (by decide)
    replace hZ4 : Z.Warmed39 T4.vm := hZ4
    replace hown4 : T4.vm.findClass "com/example/exact_gate/exactgate/NamesRequireOneLinePinLaw" = some m.cls := hown4
    replace S_b1 : Safe Z EL T4.vm h4 b1 := Aq4.safe V_b1.lt S_b1
    replace S_b2 : Safe Z EL T4.vm h4 b2 := Aq4.safe A2.lt S_b2
    replace A0 : CHr Z EL s.vm s.heap T4.vm h4 := A0.trans Aq4
    refine OEndsH.st st4 ?_
    have ne_b1_b4 : b1 ≠ b4 := (nes4 b1 S_b1).1
    have ne_b1_t4 : b1 ≠ t4 := (nes4 b1 S_b1).2
    have ne_b2_b4 : b2 ≠ b4 := (nes4 b2 S_b2).1
    have ne_b2_t4 : b2 ≠ t4 := (nes4 b2 S_b2).2
    replace V_b1 := V_b1.ext E4
    replace A2 := A2.ext E4
    replace Fc3 := Fc3.ext E4
    replace Fv3 := Fv3.ext E4
    replace V3 := V3.ext E4
    replace O0 : Ext Z.heap h4 := ext_trans O0 E4
    obtain ⟨_, T5, h5, L5, X5, e5, hQ5, st5⟩ := callC X4 hx hZ4 hown4 (wq hw 38 rfl) (wq hw 39 rfl) (wq hw 40 rfl) (wq hw 41 rfl) (by decide) (kc := 0) (ks := 0) (Con.sb (W := 0) (rm_req0_0 l hD b2 b4 tq3 kq3 O0 A2 Fc3 Fv3 V3) hZ4 (wq hw 41 rfl) (wq hw 40 rfl) (by decide) (by decide)) e4 (g := (mkF m 172 #[vi p0, vi p1, vi p2, vi p3, vi 0, vi x0, vi x1, vi x2, vi 0, vr b1, vr b2, .unset] [(.ref b4), (.ref b2)])) rfl (by rw [hml]; rfl) (argsL := [(.ref b2), (.ref b4)]) (rest := []) (lenOf pd_19 rfl) rfl (by show 2 * 0 + _ ≤ _; exact Nat.le_of_eq rfl) (hb hby at_172) (by decide) (by decide)
    obtain ⟨rfl, Nq5, Hq5⟩ := hQ5
    refine OEndsH.st st5 ?_
    replace N0 := Fr.app N0 Nq5
    replace e5 := e5.trans Hq5
    refine OEndsH.st (S' := T5.setTop (mkF m 189 #[vi p0, vi p1, vi p2, vi p3, vi 0, vi x0, vi x1, vi x2, vi 0, vr b1, vr b2, vr b2] [(.int 1)])) (fun _ k => ?_) ?_
    · refine XS.astore X5.here hx rfl (hb hby at_175) rfl rfl (l' := #[vi p0, vi p1, vi p2, vi p3, vi 0, vi x0, vi x1, vi x2, vi 0, vr b1, vr b2, vr b2]) rfl ?_
      refine XS.aload X5.here hx rfl (hb hby at_177) rfl rfl ?_
      refine XS.aload X5.here hx rfl (hb hby at_179) rfl rfl ?_
      have hq181 : Jvm.Free.XT.acmp .ne ((.ref b2) : Value) ((.ref b2) : Value) = false := (Jvm.Free.XT.aa_ne_f rfl)
      refine Jvm.Free.XT.acmpNo X5.here hx rfl (hb hby at_181) rfl rfl rfl hq181 ?_
      show Steps p.tables e below (T5.setTop (mkF m 184 #[vi p0, vi p1, vi p2, vi p3, vi 0, vi x0, vi x1, vi x2, vi 0, vr b1, vr b2, vr b2] [])) _
      refine XS.iconst X5.here hx rfl (hb hby at_184) ?_
      refine XS.goto X5.here hx rfl (pc0 := 185) (pc' := 189) rfl (hb hby at_185) (by decide) (by decide) ?_
      exact k
    exact OEndsH.ret X5 hx hZ4 hEL e5 hS4 hk4 A0 hret hlk (by decide) (Or.inl ⟨rfl, by simp, _, rfl⟩) (hb hby at_189) (by decide) (by decide) ⟨rfl, N0⟩
  · refine OEndsH.st (S' := T0.setTop (mkF m 31 #[vi p0, vi p1, vi p2, vi p3, vi 1, vi x0, vi x1, vi x2, vi 0, .unset, .unset, .unset] [(.int x0)])) (fun _ k => ?_) ?_
    · refine XS.iconst X0.here hx rfl (hb hby at_20) ?_
      refine XS.istore X0.here hx rfl (hb hby at_21) rfl (l' := #[vi p0, vi p1, vi p2, vi p3, vi 1, vi x0, vi x1, vi x2, vi 0, .unset, .unset, .unset]) rfl ?_
      refine XS.iload X0.here hx rfl (hb hby at_23) rfl ?_
      refine XS.iconst X0.here hx rfl (hb hby at_25) ?_
      show Steps p.tables e below (T0.setTop (mkF m 26 #[vi p0, vi p1, vi p2, vi p3, vi 1, vi x0, vi x1, vi x2, vi 0, .unset, .unset, .unset] [(.int 1), (.int 1)])) _
      refine XS.icmpNo X0.here hx rfl (hb hby at_26) rfl (flt (by decide)).1 ?_
      refine XS.iload X0.here hx rfl (hb hby at_29) rfl ?_
      exact k
    obtain ⟨_, T1, h1, L1, X1, e1, hQ1, st1⟩ := callC X0 hx hZ hown (wq hw 1 rfl) (wq hw 2 rfl) (wq hw 3 rfl) (wq hw 4 rfl) (by decide) (kc := 0) (ks := 0) (Con.sb (W := 0) (rm_isBr l hD x0 O0) hZ (wq hw 4 rfl) (wq hw 3 rfl) (by decide) (by decide)) e0 (g := (mkF m 31 #[vi p0, vi p1, vi p2, vi p3, vi 1, vi x0, vi x1, vi x2, vi 0, .unset, .unset, .unset] [(.int x0)])) rfl (by rw [hml]; rfl) (argsL := [(.int x0)]) (rest := []) (lenOf pd_20 rfl) rfl (by show 2 * 0 + _ ≤ _; exact Nat.le_of_eq rfl) (hb hby at_31) (by decide) (by decide)
    obtain ⟨r1, rfl, hr1, Nq1, Hq1⟩ := hQ1
    refine OEndsH.st st1 ?_
    replace N0 := Fr.app N0 Nq1
    replace e1 := e1.trans Hq1
    rcases hr1 with rfl | ⟨rfl, hb0⟩
    · refine OEndsH.st (S' := T1.setTop (mkF m 80 #[vi p0, vi p1, vi p2, vi p3, vi 1, vi x0, vi x1, vi x2, vi 1, .unset, .unset, .unset] [(.int 1)])) (fun _ k => ?_) ?_
      · refine XS.ifNo X1.here hx rfl (hb hby at_34) rfl ((if0 _ _).trans (feq (by decide)).1) ?_
        refine XS.iconst X1.here hx rfl (hb hby at_37) ?_
        refine XS.istore X1.here hx rfl (hb hby at_38) rfl (l' := #[vi p0, vi p1, vi p2, vi p3, vi 1, vi x0, vi x1, vi x2, vi 1, .unset, .unset, .unset]) rfl ?_
        refine XS.iload X1.here hx rfl (hb hby at_40) rfl ?_
        show Steps p.tables e below (T1.setTop (mkF m 42 #[vi p0, vi p1, vi p2, vi p3, vi 1, vi x0, vi x1, vi x2, vi 1, .unset, .unset, .unset] [(.int 1)])) _
        refine XS.iconst X1.here hx rfl (hb hby at_42) ?_
        refine XS.icmpYes X1.here hx rfl (pc0 := 43) (pc' := 57) rfl (hb hby at_43) rfl (tlt (by decide)).1 (by decide) (by decide) ?_
        refine XS.iload X1.here hx rfl (hb hby at_57) rfl ?_
        refine XS.iconst X1.here hx rfl (hb hby at_59) ?_
        show Steps p.tables e below (T1.setTop (mkF m 60 #[vi p0, vi p1, vi p2, vi p3, vi 1, vi x0, vi x1, vi x2, vi 1, .unset, .unset, .unset] [(.int 3), (.int 1)])) _
        refine XS.icmpYes X1.here hx rfl (pc0 := 60) (pc' := 74) rfl (hb hby at_60) rfl (tlt (by decide)).1 (by decide) (by decide) ?_
        refine XS.iload X1.here hx rfl (hb hby at_74) rfl ?_
        refine XS.ifNo X1.here hx rfl (hb hby at_76) rfl ((if0 _ _).trans (feq (by decide)).1) ?_
        refine XS.iconst X1.here hx rfl (hb hby at_79) ?_
        exact k
      exact OEndsH.ret X1 hx hZ hEL e1 hS0 hk0 A0 hret hlk (by decide) (Or.inl ⟨rfl, by simp, _, rfl⟩) (hb hby at_80) (by decide) (by decide) ⟨rfl, N0⟩
    · refine OEndsH.st (S' := T1.setTop (mkF m 101 #[vi p0, vi p1, vi p2, vi p3, vi 1, vi x0, vi x1, vi x2, vi 0, .unset, .unset, .unset] [(.int 1)])) (fun _ k => ?_) ?_
      · refine XS.ifYes X1.here hx rfl (pc0 := 34) (pc' := 40) rfl (hb hby at_34) rfl ((if0 _ _).trans (teq (by decide)).1) (by decide) (by decide) ?_
        refine XS.iload X1.here hx rfl (hb hby at_40) rfl ?_
        refine XS.iconst X1.here hx rfl (hb hby at_42) ?_
        refine XS.icmpYes X1.here hx rfl (pc0 := 43) (pc' := 57) rfl (hb hby at_43) rfl (tlt (by decide)).1 (by decide) (by decide) ?_
        show Steps p.tables e below (T1.setTop (mkF m 57 #[vi p0, vi p1, vi p2, vi p3, vi 1, vi x0, vi x1, vi x2, vi 0, .unset, .unset, .unset] [])) _
        refine XS.iload X1.here hx rfl (hb hby at_57) rfl ?_
        refine XS.iconst X1.here hx rfl (hb hby at_59) ?_
        refine XS.icmpYes X1.here hx rfl (pc0 := 60) (pc' := 74) rfl (hb hby at_60) rfl (tlt (by decide)).1 (by decide) (by decide) ?_
        refine XS.iload X1.here hx rfl (hb hby at_74) rfl ?_
        show Steps p.tables e below (T1.setTop (mkF m 76 #[vi p0, vi p1, vi p2, vi p3, vi 1, vi x0, vi x1, vi x2, vi 0, .unset, .unset, .unset] [(.int 0)])) _
        refine XS.ifYes X1.here hx rfl (pc0 := 76) (pc' := 81) rfl (hb hby at_76) rfl ((if0 _ _).trans (teq (by decide)).1) (by decide) (by decide) ?_
        refine XS.iload X1.here hx rfl (hb hby at_81) rfl ?_
        refine XS.ifYes X1.here hx rfl (pc0 := 83) (pc' := 94) rfl (hb hby at_83) rfl ((if0 _ _).trans (feq (by decide)).2) (by decide) (by decide) ?_
        refine XS.iload X1.here hx rfl (hb hby at_94) rfl ?_
        show Steps p.tables e below (T1.setTop (mkF m 96 #[vi p0, vi p1, vi p2, vi p3, vi 1, vi x0, vi x1, vi x2, vi 0, .unset, .unset, .unset] [(.int 1)])) _
        refine XS.iconst X1.here hx rfl (hb hby at_96) ?_
        refine XS.icmpNo X1.here hx rfl (hb hby at_97) rfl (teq (by decide)).2 ?_
        refine XS.iconst X1.here hx rfl (hb hby at_100) ?_
        exact k
      obtain ⟨T2, h2, k2, X2, e2, E2, A2, st2⟩ := newP X1 hx hZ (wq hw 5 rfl) e1 (g := (mkF m 101 #[vi p0, vi p1, vi p2, vi p3, vi 1, vi x0, vi x1, vi x2, vi 0, .unset, .unset, .unset] [(.int 1)])) rfl (hb hby at_101) rfl (by decide) (cap := 1) (by decide) (by decide) (by decide) (by decide)
      obtain ⟨b2, g2⟩ : ∃ z, z = h0.size := ⟨_, rfl⟩
      rw [← g2] at A2 st2
      refine OEndsH.st st2 ?_
      have ge_b2 : Z.heap.size ≤ b2 := Nat.le_trans O0.1 (Nat.le_of_eq g2.symm)
      have S_b2 : Safe Z EL vm0 h0 b2 := Safe.new (Nat.le_of_eq g2.symm)
      have S_b2' : Safe Z EL vm0 h2 b2 := Safe.ext E2 A0.1 S_b2
      have A' : CHr Z EL s.vm s.heap vm0 h2 := A0.trans (CHr.ext E2 A0.1)
      replace S_b2 := S_b2'
      replace A0 := A'
      replace hk0 := Nat.le_trans hk0 E2.1
      replace O0 : Ext Z.heap h2 := ext_trans O0 E2
      have V_b2 : Arv Z h2 b2 k2 .char (1 : Int32) [(.int 0)] (.int 0) := (Arv.new A2 (by decide)).pad (pad_rep [] (.int 0) 1)
      refine OEndsH.st (S' := T2.setTop (mkF m 107 #[vi p0, vi p1, vi p2, vi p3, vi 1, vi x0, vi x1, vi x2, vi 0, .unset, .unset, .unset] [(.int x0), (.int 0), (.ref b2), (.ref b2)])) (fun _ k => ?_) ?_
      · refine XS.dup X2.here hx rfl (hb hby at_103) rfl rfl ?_
        refine XS.iconst X2.here hx rfl (hb hby at_104) ?_
        refine XS.iload X2.here hx rfl (hb hby at_105) rfl ?_
        exact k
      obtain ⟨cl_b2_3, Ar_b2_3, q_b2_3, S_b2_3, N_b2_3, H_b2_3, G_b2_3⟩ := V_b2
      obtain ⟨T3, h3, X3, e3, W3, st3⟩ := stC X2 hx hZ e2 Ar_b2_3 (j := (0 : Int32)) (inb_of S_b2_3 ⟨by decide, by decide⟩) (g := (mkF m 107 #[vi p0, vi p1, vi p2, vi p3, vi 1, vi x0, vi x1, vi x2, vi 0, .unset, .unset, .unset] [(.int x0), (.int 0), (.ref b2), (.ref b2)])) rfl rfl (hb hby at_107)
      have V_b2_3 : Arv Z h3 b2 k2 .char (1 : Int32) [(.int (nar .char x0))] (.int 0) := Arv.set Ar_b2_3 q_b2_3 S_b2_3 N_b2_3 H_b2_3 G_b2_3 (fits_nar_char _) W3 0 rfl (Nat.le_of_ble_eq_true rfl)
      refine OEndsH.st st3 ?_
      have S_b2' : Safe Z EL vm0 h3 b2 := Safe.wr W3 S_b2 A0.1 S_b2
      have A' : CHr Z EL s.vm s.heap vm0 h3 := A0.trans (CHr.wr W3 S_b2 A0.1)
      replace S_b2 := S_b2'
      replace A0 := A'
      replace hk0 := Nat.le_trans hk0 (Keep.of_wr W3).1
      replace O0 : Ext Z.heap h3 := ext_wr O0 W3 ge_b2
      replace N0 := Fr.snoc X3 N0 ge_b2
      refine OEndsH.st (S' := T3.setTop (mkF m 157 #[vi p0, vi p1, vi p2, vi p3, vi 1, vi x0, vi x1, vi x2, vi 0, vr b2, .unset, .unset] [])) (fun _ k => ?_) ?_
      · refine XS.astore X3.here hx rfl (hb hby at_108) rfl rfl (l' := #[vi p0, vi p1, vi p2, vi p3, vi 1, vi x0, vi x1, vi x2, vi 0, vr b2, .unset, .unset]) rfl ?_
        refine XS.goto X3.here hx rfl (pc0 := 110) (pc' := 157) rfl (hb hby at_110) (by decide) (by decide) ?_
        exact k
      obtain ⟨T4, h4, X4, e4, E4, A4, D4, U4, st4⟩ := newO X3 hx hZ hown (wq hw 6 rfl) (wq hw 7 rfl) (wq hw 8 rfl) e3 (g := (mkF m 157 #[vi p0, vi p1, vi p2, vi p3, vi 1, vi x0, vi x1, vi x2, vi 0, vr b2, .unset, .unset] [])) rfl (hb hby at_157) (by decide) (by decide)
      obtain ⟨b4, g4⟩ : ∃ z, z = h3.size := ⟨_, rfl⟩
      rw [← g4] at A4 D4 U4 st4
      refine OEndsH.st st4 ?_
      have ne_b2_b4 : b2 ≠ b4 := Nat.ne_of_lt (Nat.lt_of_lt_of_le V_b2_3.lt (Nat.le_of_eq g4.symm))
      have ge_b4 : Z.heap.size ≤ b4 := Nat.le_trans O0.1 (Nat.le_of_eq g4.symm)
      have S_b4 : Safe Z EL vm0 h3 b4 := Safe.new (Nat.le_of_eq g4.symm)
      replace V_b2_3 := V_b2_3.ext E4
      have S_b2' : Safe Z EL vm0 h4 b2 := Safe.ext E4 A0.1 S_b2
      have S_b4' : Safe Z EL vm0 h4 b4 := Safe.ext E4 A0.1 S_b4
      have A' : CHr Z EL s.vm s.heap vm0 h4 := A0.trans (CHr.ext E4 A0.1)
      replace S_b2 := S_b2'
      replace S_b4 := S_b4'
      replace A0 := A'
      replace hk0 := Nat.le_trans hk0 E4.1
      replace O0 : Ext Z.heap h4 := ext_trans O0 E4
      have F_coder_b4 : Fld Z h4 b4 "java/lang/String" "coder" "B" (.int 0) := D4 (Or.inr (wq hw 32 rfl)) (ty := .byte) (by decide)
      have F_value_b4 : Fld Z h4 b4 "java/lang/String" "value" "[B" .null := D4 (Or.inr (wq hw 34 rfl)) (ty := (.array .byte)) (by decide)
      refine OEndsH.st (S' := T4.setTop (mkF m 163 #[vi p0, vi p1, vi p2, vi p3, vi 1, vi x0, vi x1, vi x2, vi 0, vr b2, .unset, .unset] [(.ref b2), (.ref b4), (.ref b4)])) (fun _ k => ?_) ?_
      · refine XS.dup X4.here hx rfl (hb hby at_160) rfl rfl ?_
        refine XS.aload X4.here hx rfl (hb hby at_161) rfl rfl ?_
        exact k
      simp only [nar16 hx0] at V_b2_3
      obtain ⟨_, T5, h5, L5, X5, e5, hQ5, st5⟩ := specC X4 hx hZ rfl hown (wq hw 9 rfl) (wq hw 10 rfl) (wq hw 11 rfl) (by decide) (kc := 2) (ks := 3) (Con.sb (W := 1) (rm_strI1_1 l hD b4 b2 k2 x0 O0 A4 F_value_b4 F_coder_b4 ge_b4 V_b2_3 hx0) hZ (wq hw 11 rfl) (wq hw 8 rfl) (by decide) (by decide)) e4 (a := b4) (g := (mkF m 163 #[vi p0, vi p1, vi p2, vi p3, vi 1, vi x0, vi x1, vi x2, vi 0, vr b2, .unset, .unset] [(.ref b2), (.ref b4), (.ref b4)])) rfl (by rw [hml]; rfl) (argsL := [(.ref b2)]) (rest := [(.ref b4)]) (lenOf pd_18 rfl) rfl (by show 2 * 0 + _ ≤ _; exact Nat.le_of_eq rfl) (hb hby at_163) (by decide) (by decide)
      obtain ⟨rfl, Nq5, Kq5, Eq5, tq5, kq5, Fv5, hd5⟩ := hQ5
      refine OEndsH.st st5 ?_
      replace N0 := Fr.app N0 Nq5
      replace V_b2_3 := V_b2_3.keep Kq5 (ninS ne_b2_b4 nin0)
      replace A4 := A4.keep Kq5
      have S_b2' : Safe Z EL vm0 h5 b2 := Safe.keep Kq5 (sfS S_b4 sf0) A0.1 S_b2
      have S_b4' : Safe Z EL vm0 h5 b4 := Safe.keep Kq5 (sfS S_b4 sf0) A0.1 S_b4
      have A' : CHr Z EL s.vm s.heap vm0 h5 := A0.trans (CHr.keep Kq5 (sfS S_b4 sf0) A0.1)
      replace S_b2 := S_b2'
      replace S_b4 := S_b4'
      replace A0 := A'
      replace hk0 := Nat.le_trans hk0 Kq5.1
      replace O0 : Ext Z.heap h5 := ext_keep O0 Kq5 (allS ge_b4 all0)
      rcases hd5 with ⟨hl0, Fc, Vt⟩ | ⟨Fc, Vt⟩
      · refine OEndsH.st (S' := T5.setTop (mkF m 170 #[vi p0, vi p1, vi p2, vi p3, vi 1, vi x0, vi x1, vi x2, vi 0, vr b2, vr b4, .unset] [(.ref b4)])) (fun _ k => ?_) ?_
        · refine XS.astore X5.here hx rfl (hb hby at_166) rfl rfl (l' := #[vi p0, vi p1, vi p2, vi p3, vi 1, vi x0, vi x1, vi x2, vi 0, vr b2, vr b4, .unset]) rfl ?_
          refine XS.aload X5.here hx rfl (hb hby at_168) rfl rfl ?_
          exact k
        obtain ⟨b6, T6, h6, k16, t6, kb6, X6, e6, E6, hS6, hk6, hZ6, hown6, Es6, Fc6, Fv6, V6, -, -, Aq6, -, nes6, st6⟩ := ldcCH X5 hx hZ hown (wq hw 35 rfl) hsa e5 hS0 hk0 hEL (List.mem_of_getElem? (i := 1) rfl) A0.1 (vs := [(.int 110), (.int 97), (.int 109), (.int 101)]) (z := (4 : Int32)) ⟨by decide, by decide⟩ (by decide) rfl (g := (mkF m 170 #[vi p0, vi p1, vi p2, vi p3, vi 1, vi x0, vi x1, vi x2, vi 0, vr b2, vr b4, .unset] [(.ref b4)])) rfl (hb hby at_170) (n := 16) (by decide) (by decide) (by decide) (by decide)
        replace hZ6 : Z.Warmed39 T6.vm := hZ6
        replace hown6 : T6.vm.findClass "com/example/exact_gate/exactgate/NamesRequireOneLinePinLaw" = some m.cls := hown6
        replace S_b2 : Safe Z EL T6.vm h6 b2 := Aq6.safe V_b2_3.lt S_b2
        replace S_b4 : Safe Z EL T6.vm h6 b4 := Aq6.safe A4.lt S_b4
        replace A0 : CHr Z EL s.vm s.heap T6.vm h6 := A0.trans Aq6
        refine OEndsH.st st6 ?_
        have ne_b2_b6 : b2 ≠ b6 := (nes6 b2 S_b2).1
        have ne_b2_t6 : b2 ≠ t6 := (nes6 b2 S_b2).2
        have ne_b4_b6 : b4 ≠ b6 := (nes6 b4 S_b4).1
        have ne_b4_t6 : b4 ≠ t6 := (nes6 b4 S_b4).2
        replace V_b2_3 := V_b2_3.ext E6
        replace A4 := A4.ext E6
        replace Fv5 := Fv5.ext E6
        replace Fc := Fc.ext E6
        replace Vt := Vt.ext E6
        replace O0 : Ext Z.heap h6 := ext_trans O0 E6
        obtain ⟨_, T7, h7, L7, X7, e7, hQ7, st7⟩ := callC X6 hx hZ6 hown6 (wq hw 38 rfl) (wq hw 39 rfl) (wq hw 40 rfl) (wq hw 41 rfl) (by decide) (kc := 0) (ks := 0) (Con.sb (W := 0) (rm_req1_0 l hD b4 b6 tq5 kq5 x0 O0 A4 Fc Fv5 Vt hx0 hl0 hb0) hZ6 (wq hw 41 rfl) (wq hw 40 rfl) (by decide) (by decide)) e6 (g := (mkF m 172 #[vi p0, vi p1, vi p2, vi p3, vi 1, vi x0, vi x1, vi x2, vi 0, vr b2, vr b4, .unset] [(.ref b6), (.ref b4)])) rfl (by rw [hml]; rfl) (argsL := [(.ref b4), (.ref b6)]) (rest := []) (lenOf pd_19 rfl) rfl (by show 2 * 0 + _ ≤ _; exact Nat.le_of_eq rfl) (hb hby at_172) (by decide) (by decide)
        obtain ⟨rfl, Nq7, Hq7⟩ := hQ7
        refine OEndsH.st st7 ?_
        replace N0 := Fr.app N0 Nq7
        replace e7 := e7.trans Hq7
        refine OEndsH.st (S' := T7.setTop (mkF m 189 #[vi p0, vi p1, vi p2, vi p3, vi 1, vi x0, vi x1, vi x2, vi 0, vr b2, vr b4, vr b4] [(.int 1)])) (fun _ k => ?_) ?_
        · refine XS.astore X7.here hx rfl (hb hby at_175) rfl rfl (l' := #[vi p0, vi p1, vi p2, vi p3, vi 1, vi x0, vi x1, vi x2, vi 0, vr b2, vr b4, vr b4]) rfl ?_
          refine XS.aload X7.here hx rfl (hb hby at_177) rfl rfl ?_
          refine XS.aload X7.here hx rfl (hb hby at_179) rfl rfl ?_
          have hq181 : Jvm.Free.XT.acmp .ne ((.ref b4) : Value) ((.ref b4) : Value) = false := (Jvm.Free.XT.aa_ne_f rfl)
          refine Jvm.Free.XT.acmpNo X7.here hx rfl (hb hby at_181) rfl rfl rfl hq181 ?_
          show Steps p.tables e below (T7.setTop (mkF m 184 #[vi p0, vi p1, vi p2, vi p3, vi 1, vi x0, vi x1, vi x2, vi 0, vr b2, vr b4, vr b4] [])) _
          refine XS.iconst X7.here hx rfl (hb hby at_184) ?_
          refine XS.goto X7.here hx rfl (pc0 := 185) (pc' := 189) rfl (hb hby at_185) (by decide) (by decide) ?_
          exact k
        exact OEndsH.ret X7 hx hZ6 hEL e7 hS6 hk6 A0 hret hlk (by decide) (Or.inl ⟨rfl, by simp, _, rfl⟩) (hb hby at_189) (by decide) (by decide) ⟨rfl, N0⟩
      · refine OEndsH.st (S' := T5.setTop (mkF m 170 #[vi p0, vi p1, vi p2, vi p3, vi 1, vi x0, vi x1, vi x2, vi 0, vr b2, vr b4, .unset] [(.ref b4)])) (fun _ k => ?_) ?_
        · refine XS.astore X5.here hx rfl (hb hby at_166) rfl rfl (l' := #[vi p0, vi p1, vi p2, vi p3, vi 1, vi x0, vi x1, vi x2, vi 0, vr b2, vr b4, .unset]) rfl ?_
          refine XS.aload X5.here hx rfl (hb hby at_168) rfl rfl ?_
          exact k
        obtain ⟨b6, T6, h6, k16, t6, kb6, X6, e6, E6, hS6, hk6, hZ6, hown6, Es6, Fc6, Fv6, V6, -, -, Aq6, -, nes6, st6⟩ := ldcCH X5 hx hZ hown (wq hw 35 rfl) hsa e5 hS0 hk0 hEL (List.mem_of_getElem? (i := 1) rfl) A0.1 (vs := [(.int 110), (.int 97), (.int 109), (.int 101)]) (z := (4 : Int32)) ⟨by decide, by decide⟩ (by decide) rfl (g := (mkF m 170 #[vi p0, vi p1, vi p2, vi p3, vi 1, vi x0, vi x1, vi x2, vi 0, vr b2, vr b4, .unset] [(.ref b4)])) rfl (hb hby at_170) (n := 16) (by decide) (by decide) (by decide) (by decide)
        replace hZ6 : Z.Warmed39 T6.vm := hZ6
        replace hown6 : T6.vm.findClass "com/example/exact_gate/exactgate/NamesRequireOneLinePinLaw" = some m.cls := hown6
        replace S_b2 : Safe Z EL T6.vm h6 b2 := Aq6.safe V_b2_3.lt S_b2
        replace S_b4 : Safe Z EL T6.vm h6 b4 := Aq6.safe A4.lt S_b4
        replace A0 : CHr Z EL s.vm s.heap T6.vm h6 := A0.trans Aq6
        refine OEndsH.st st6 ?_
        have ne_b2_b6 : b2 ≠ b6 := (nes6 b2 S_b2).1
        have ne_b2_t6 : b2 ≠ t6 := (nes6 b2 S_b2).2
        have ne_b4_b6 : b4 ≠ b6 := (nes6 b4 S_b4).1
        have ne_b4_t6 : b4 ≠ t6 := (nes6 b4 S_b4).2
        replace V_b2_3 := V_b2_3.ext E6
        replace A4 := A4.ext E6
        replace Fv5 := Fv5.ext E6
        replace Fc := Fc.ext E6
        replace Vt := Vt.ext E6
        replace O0 : Ext Z.heap h6 := ext_trans O0 E6
        obtain ⟨_, T7, h7, L7, X7, e7, hQ7, st7⟩ := callC X6 hx hZ6 hown6 (wq hw 38 rfl) (wq hw 39 rfl) (wq hw 40 rfl) (wq hw 41 rfl) (by decide) (kc := 0) (ks := 0) (Con.sb (W := 0) (rm_req1_1 l hD b4 b6 tq5 kq5 x0 O0 A4 Fc Fv5 Vt hx0 hb0) hZ6 (wq hw 41 rfl) (wq hw 40 rfl) (by decide) (by decide)) e6 (g := (mkF m 172 #[vi p0, vi p1, vi p2, vi p3, vi 1, vi x0, vi x1, vi x2, vi 0, vr b2, vr b4, .unset] [(.ref b6), (.ref b4)])) rfl (by rw [hml]; rfl) (argsL := [(.ref b4), (.ref b6)]) (rest := []) (lenOf pd_19 rfl) rfl (by show 2 * 0 + _ ≤ _; exact Nat.le_of_eq rfl) (hb hby at_172) (by decide) (by decide)
        obtain ⟨rfl, Nq7, Hq7⟩ := hQ7
        refine OEndsH.st st7 ?_
        replace N0 := Fr.app N0 Nq7
        replace e7 := e7.trans Hq7
        refine OEndsH.st (S' := T7.setTop (mkF m 189 #[vi p0, vi p1, vi p2, vi p3, vi 1, vi x0, vi x1, vi x2, vi 0, vr b2, vr b4, vr b4] [(.int 1)])) (fun _ k => ?_) ?_
        · refine XS.astore X7.here hx rfl (hb hby at_175) rfl rfl (l' := #[vi p0, vi p1, vi p2, vi p3, vi 1, vi x0, vi x1, vi x2, vi 0, vr b2, vr b4, vr b4]) rfl ?_
          refine XS.aload X7.here hx rfl (hb hby at_177) rfl rfl ?_
          refine XS.aload X7.here hx rfl (hb hby at_179) rfl rfl ?_
          have hq181 : Jvm.Free.XT.acmp .ne ((.ref b4) : Value) ((.ref b4) : Value) = false := (Jvm.Free.XT.aa_ne_f rfl)
          refine Jvm.Free.XT.acmpNo X7.here hx rfl (hb hby at_181) rfl rfl rfl hq181 ?_
          show Steps p.tables e below (T7.setTop (mkF m 184 #[vi p0, vi p1, vi p2, vi p3, vi 1, vi x0, vi x1, vi x2, vi 0, vr b2, vr b4, vr b4] [])) _
          refine XS.iconst X7.here hx rfl (hb hby at_184) ?_
          refine XS.goto X7.here hx rfl (pc0 := 185) (pc' := 189) rfl (hb hby at_185) (by decide) (by decide) ?_
          exact k
        exact OEndsH.ret X7 hx hZ6 hEL e7 hS6 hk6 A0 hret hlk (by decide) (Or.inl ⟨rfl, by simp, _, rfl⟩) (hb hby at_189) (by decide) (by decide) ⟨rfl, N0⟩
  · refine OEndsH.st (S' := T0.setTop (mkF m 31 #[vi p0, vi p1, vi p2, vi p3, vi 2, vi x0, vi x1, vi x2, vi 0, .unset, .unset, .unset] [(.int x0)])) (fun _ k => ?_) ?_
    · refine XS.iconst X0.here hx rfl (hb hby at_20) ?_
      refine XS.istore X0.here hx rfl (hb hby at_21) rfl (l' := #[vi p0, vi p1, vi p2, vi p3, vi 2, vi x0, vi x1, vi x2, vi 0, .unset, .unset, .unset]) rfl ?_
      refine XS.iload X0.here hx rfl (hb hby at_23) rfl ?_
      refine XS.iconst X0.here hx rfl (hb hby at_25) ?_
      show Steps p.tables e below (T0.setTop (mkF m 26 #[vi p0, vi p1, vi p2, vi p3, vi 2, vi x0, vi x1, vi x2, vi 0, .unset, .unset, .unset] [(.int 1), (.int 2)])) _
      refine XS.icmpNo X0.here hx rfl (hb hby at_26) rfl (flt (by decide)).1 ?_
      refine XS.iload X0.here hx rfl (hb hby at_29) rfl ?_
      exact k
    obtain ⟨_, T1, h1, L1, X1, e1, hQ1, st1⟩ := callC X0 hx hZ hown (wq hw 1 rfl) (wq hw 2 rfl) (wq hw 3 rfl) (wq hw 4 rfl) (by decide) (kc := 0) (ks := 0) (Con.sb (W := 0) (rm_isBr l hD x0 O0) hZ (wq hw 4 rfl) (wq hw 3 rfl) (by decide) (by decide)) e0 (g := (mkF m 31 #[vi p0, vi p1, vi p2, vi p3, vi 2, vi x0, vi x1, vi x2, vi 0, .unset, .unset, .unset] [(.int x0)])) rfl (by rw [hml]; rfl) (argsL := [(.int x0)]) (rest := []) (lenOf pd_20 rfl) rfl (by show 2 * 0 + _ ≤ _; exact Nat.le_of_eq rfl) (hb hby at_31) (by decide) (by decide)
    obtain ⟨r1, rfl, hr1, Nq1, Hq1⟩ := hQ1
    refine OEndsH.st st1 ?_
    replace N0 := Fr.app N0 Nq1
    replace e1 := e1.trans Hq1
    rcases hr1 with rfl | ⟨rfl, hb0⟩
    · refine OEndsH.st (S' := T1.setTop (mkF m 48 #[vi p0, vi p1, vi p2, vi p3, vi 2, vi x0, vi x1, vi x2, vi 1, .unset, .unset, .unset] [(.int x1)])) (fun _ k => ?_) ?_
      · refine XS.ifNo X1.here hx rfl (hb hby at_34) rfl ((if0 _ _).trans (feq (by decide)).1) ?_
        refine XS.iconst X1.here hx rfl (hb hby at_37) ?_
        refine XS.istore X1.here hx rfl (hb hby at_38) rfl (l' := #[vi p0, vi p1, vi p2, vi p3, vi 2, vi x0, vi x1, vi x2, vi 1, .unset, .unset, .unset]) rfl ?_
        refine XS.iload X1.here hx rfl (hb hby at_40) rfl ?_
        show Steps p.tables e below (T1.setTop (mkF m 42 #[vi p0, vi p1, vi p2, vi p3, vi 2, vi x0, vi x1, vi x2, vi 1, .unset, .unset, .unset] [(.int 2)])) _
        refine XS.iconst X1.here hx rfl (hb hby at_42) ?_
        refine XS.icmpNo X1.here hx rfl (hb hby at_43) rfl (flt (by decide)).1 ?_
        refine XS.iload X1.here hx rfl (hb hby at_46) rfl ?_
        exact k
      obtain ⟨_, T2, h2, L2, X2, e2, hQ2, st2⟩ := callC X1 hx hZ hown (wq hw 1 rfl) (wq hw 2 rfl) (wq hw 3 rfl) (wq hw 4 rfl) (by decide) (kc := 0) (ks := 0) (Con.sb (W := 0) (rm_isBr l hD x1 O0) hZ (wq hw 4 rfl) (wq hw 3 rfl) (by decide) (by decide)) e1 (g := (mkF m 48 #[vi p0, vi p1, vi p2, vi p3, vi 2, vi x0, vi x1, vi x2, vi 1, .unset, .unset, .unset] [(.int x1)])) rfl (by rw [hml]; rfl) (argsL := [(.int x1)]) (rest := []) (lenOf pd_20 rfl) rfl (by show 2 * 0 + _ ≤ _; exact Nat.le_of_eq rfl) (hb hby at_48) (by decide) (by decide)
      obtain ⟨r2, rfl, hr2, Nq2, Hq2⟩ := hQ2
      refine OEndsH.st st2 ?_
      replace N0 := Fr.app N0 Nq2
      replace e2 := e2.trans Hq2
      rcases hr2 with rfl | ⟨rfl, hb1⟩
      · refine OEndsH.st (S' := T2.setTop (mkF m 80 #[vi p0, vi p1, vi p2, vi p3, vi 2, vi x0, vi x1, vi x2, vi 1, .unset, .unset, .unset] [(.int 1)])) (fun _ k => ?_) ?_
        · refine XS.ifNo X2.here hx rfl (hb hby at_51) rfl ((if0 _ _).trans (feq (by decide)).1) ?_
          refine XS.iconst X2.here hx rfl (hb hby at_54) ?_
          refine XS.istore X2.here hx rfl (hb hby at_55) rfl (l' := #[vi p0, vi p1, vi p2, vi p3, vi 2, vi x0, vi x1, vi x2, vi 1, .unset, .unset, .unset]) rfl ?_
          refine XS.iload X2.here hx rfl (hb hby at_57) rfl ?_
          show Steps p.tables e below (T2.setTop (mkF m 59 #[vi p0, vi p1, vi p2, vi p3, vi 2, vi x0, vi x1, vi x2, vi 1, .unset, .unset, .unset] [(.int 2)])) _
          refine XS.iconst X2.here hx rfl (hb hby at_59) ?_
          refine XS.icmpYes X2.here hx rfl (pc0 := 60) (pc' := 74) rfl (hb hby at_60) rfl (tlt (by decide)).1 (by decide) (by decide) ?_
          refine XS.iload X2.here hx rfl (hb hby at_74) rfl ?_
          refine XS.ifNo X2.here hx rfl (hb hby at_76) rfl ((if0 _ _).trans (feq (by decide)).1) ?_
          show Steps p.tables e below (T2.setTop (mkF m 79 #[vi p0, vi p1, vi p2, vi p3, vi 2, vi x0, vi x1, vi x2, vi 1, .unset, .unset, .unset] [])) _
          refine XS.iconst X2.here hx rfl (hb hby at_79) ?_
          exact k
        exact OEndsH.ret X2 hx hZ hEL e2 hS0 hk0 A0 hret hlk (by decide) (Or.inl ⟨rfl, by simp, _, rfl⟩) (hb hby at_80) (by decide) (by decide) ⟨rfl, N0⟩
      · refine OEndsH.st (S' := T2.setTop (mkF m 80 #[vi p0, vi p1, vi p2, vi p3, vi 2, vi x0, vi x1, vi x2, vi 1, .unset, .unset, .unset] [(.int 1)])) (fun _ k => ?_) ?_
        · refine XS.ifYes X2.here hx rfl (pc0 := 51) (pc' := 57) rfl (hb hby at_51) rfl ((if0 _ _).trans (teq (by decide)).1) (by decide) (by decide) ?_
          refine XS.iload X2.here hx rfl (hb hby at_57) rfl ?_
          refine XS.iconst X2.here hx rfl (hb hby at_59) ?_
          refine XS.icmpYes X2.here hx rfl (pc0 := 60) (pc' := 74) rfl (hb hby at_60) rfl (tlt (by decide)).1 (by decide) (by decide) ?_
          show Steps p.tables e below (T2.setTop (mkF m 74 #[vi p0, vi p1, vi p2, vi p3, vi 2, vi x0, vi x1, vi x2, vi 1, .unset, .unset, .unset] [])) _
          refine XS.iload X2.here hx rfl (hb hby at_74) rfl ?_
          refine XS.ifNo X2.here hx rfl (hb hby at_76) rfl ((if0 _ _).trans (feq (by decide)).1) ?_
          refine XS.iconst X2.here hx rfl (hb hby at_79) ?_
          exact k
        exact OEndsH.ret X2 hx hZ hEL e2 hS0 hk0 A0 hret hlk (by decide) (Or.inl ⟨rfl, by simp, _, rfl⟩) (hb hby at_80) (by decide) (by decide) ⟨rfl, N0⟩
    · refine OEndsH.st (S' := T1.setTop (mkF m 48 #[vi p0, vi p1, vi p2, vi p3, vi 2, vi x0, vi x1, vi x2, vi 0, .unset, .unset, .unset] [(.int x1)])) (fun _ k => ?_) ?_
      · refine XS.ifYes X1.here hx rfl (pc0 := 34) (pc' := 40) rfl (hb hby at_34) rfl ((if0 _ _).trans (teq (by decide)).1) (by decide) (by decide) ?_
        refine XS.iload X1.here hx rfl (hb hby at_40) rfl ?_
        refine XS.iconst X1.here hx rfl (hb hby at_42) ?_
        refine XS.icmpNo X1.here hx rfl (hb hby at_43) rfl (flt (by decide)).1 ?_
        show Steps p.tables e below (T1.setTop (mkF m 46 #[vi p0, vi p1, vi p2, vi p3, vi 2, vi x0, vi x1, vi x2, vi 0, .unset, .unset, .unset] [])) _
        refine XS.iload X1.here hx rfl (hb hby at_46) rfl ?_
        exact k
      obtain ⟨_, T2, h2, L2, X2, e2, hQ2, st2⟩ := callC X1 hx hZ hown (wq hw 1 rfl) (wq hw 2 rfl) (wq hw 3 rfl) (wq hw 4 rfl) (by decide) (kc := 0) (ks := 0) (Con.sb (W := 0) (rm_isBr l hD x1 O0) hZ (wq hw 4 rfl) (wq hw 3 rfl) (by decide) (by decide)) e1 (g := (mkF m 48 #[vi p0, vi p1, vi p2, vi p3, vi 2, vi x0, vi x1, vi x2, vi 0, .unset, .unset, .unset] [(.int x1)])) rfl (by rw [hml]; rfl) (argsL := [(.int x1)]) (rest := []) (lenOf pd_20 rfl) rfl (by show 2 * 0 + _ ≤ _; exact Nat.le_of_eq rfl) (hb hby at_48) (by decide) (by decide)
      obtain ⟨r2, rfl, hr2, Nq2, Hq2⟩ := hQ2
      refine OEndsH.st st2 ?_
      replace N0 := Fr.app N0 Nq2
      replace e2 := e2.trans Hq2
      rcases hr2 with rfl | ⟨rfl, hb1⟩
      · refine OEndsH.st (S' := T2.setTop (mkF m 80 #[vi p0, vi p1, vi p2, vi p3, vi 2, vi x0, vi x1, vi x2, vi 1, .unset, .unset, .unset] [(.int 1)])) (fun _ k => ?_) ?_
        · refine XS.ifNo X2.here hx rfl (hb hby at_51) rfl ((if0 _ _).trans (feq (by decide)).1) ?_
          refine XS.iconst X2.here hx rfl (hb hby at_54) ?_
          refine XS.istore X2.here hx rfl (hb hby at_55) rfl (l' := #[vi p0, vi p1, vi p2, vi p3, vi 2, vi x0, vi x1, vi x2, vi 1, .unset, .unset, .unset]) rfl ?_
          refine XS.iload X2.here hx rfl (hb hby at_57) rfl ?_
          show Steps p.tables e below (T2.setTop (mkF m 59 #[vi p0, vi p1, vi p2, vi p3, vi 2, vi x0, vi x1, vi x2, vi 1, .unset, .unset, .unset] [(.int 2)])) _
          refine XS.iconst X2.here hx rfl (hb hby at_59) ?_
          refine XS.icmpYes X2.here hx rfl (pc0 := 60) (pc' := 74) rfl (hb hby at_60) rfl (tlt (by decide)).1 (by decide) (by decide) ?_
          refine XS.iload X2.here hx rfl (hb hby at_74) rfl ?_
          refine XS.ifNo X2.here hx rfl (hb hby at_76) rfl ((if0 _ _).trans (feq (by decide)).1) ?_
          show Steps p.tables e below (T2.setTop (mkF m 79 #[vi p0, vi p1, vi p2, vi p3, vi 2, vi x0, vi x1, vi x2, vi 1, .unset, .unset, .unset] [])) _
          refine XS.iconst X2.here hx rfl (hb hby at_79) ?_
          exact k
        exact OEndsH.ret X2 hx hZ hEL e2 hS0 hk0 A0 hret hlk (by decide) (Or.inl ⟨rfl, by simp, _, rfl⟩) (hb hby at_80) (by decide) (by decide) ⟨rfl, N0⟩
      · refine OEndsH.st (S' := T2.setTop (mkF m 120 #[vi p0, vi p1, vi p2, vi p3, vi 2, vi x0, vi x1, vi x2, vi 0, .unset, .unset, .unset] [(.int 2)])) (fun _ k => ?_) ?_
        · refine XS.ifYes X2.here hx rfl (pc0 := 51) (pc' := 57) rfl (hb hby at_51) rfl ((if0 _ _).trans (teq (by decide)).1) (by decide) (by decide) ?_
          refine XS.iload X2.here hx rfl (hb hby at_57) rfl ?_
          refine XS.iconst X2.here hx rfl (hb hby at_59) ?_
          refine XS.icmpYes X2.here hx rfl (pc0 := 60) (pc' := 74) rfl (hb hby at_60) rfl (tlt (by decide)).1 (by decide) (by decide) ?_
          show Steps p.tables e below (T2.setTop (mkF m 74 #[vi p0, vi p1, vi p2, vi p3, vi 2, vi x0, vi x1, vi x2, vi 0, .unset, .unset, .unset] [])) _
          refine XS.iload X2.here hx rfl (hb hby at_74) rfl ?_
          refine XS.ifYes X2.here hx rfl (pc0 := 76) (pc' := 81) rfl (hb hby at_76) rfl ((if0 _ _).trans (teq (by decide)).1) (by decide) (by decide) ?_
          refine XS.iload X2.here hx rfl (hb hby at_81) rfl ?_
          refine XS.ifYes X2.here hx rfl (pc0 := 83) (pc' := 94) rfl (hb hby at_83) rfl ((if0 _ _).trans (feq (by decide)).2) (by decide) (by decide) ?_
          show Steps p.tables e below (T2.setTop (mkF m 94 #[vi p0, vi p1, vi p2, vi p3, vi 2, vi x0, vi x1, vi x2, vi 0, .unset, .unset, .unset] [])) _
          refine XS.iload X2.here hx rfl (hb hby at_94) rfl ?_
          refine XS.iconst X2.here hx rfl (hb hby at_96) ?_
          refine XS.icmpYes X2.here hx rfl (pc0 := 97) (pc' := 113) rfl (hb hby at_97) rfl (feq (by decide)).2 (by decide) (by decide) ?_
          refine XS.iload X2.here hx rfl (hb hby at_113) rfl ?_
          show Steps p.tables e below (T2.setTop (mkF m 115 #[vi p0, vi p1, vi p2, vi p3, vi 2, vi x0, vi x1, vi x2, vi 0, .unset, .unset, .unset] [(.int 2)])) _
          refine XS.iconst X2.here hx rfl (hb hby at_115) ?_
          refine XS.icmpNo X2.here hx rfl (hb hby at_116) rfl (teq (by decide)).2 ?_
          refine XS.iconst X2.here hx rfl (hb hby at_119) ?_
          exact k
        obtain ⟨T3, h3, k3, X3, e3, E3, A3, st3⟩ := newP X2 hx hZ (wq hw 5 rfl) e2 (g := (mkF m 120 #[vi p0, vi p1, vi p2, vi p3, vi 2, vi x0, vi x1, vi x2, vi 0, .unset, .unset, .unset] [(.int 2)])) rfl (hb hby at_120) rfl (by decide) (cap := 2) (by decide) (by decide) (by decide) (by decide)
        obtain ⟨b3, g3⟩ : ∃ z, z = h0.size := ⟨_, rfl⟩
        rw [← g3] at A3 st3
        refine OEndsH.st st3 ?_
        have ge_b3 : Z.heap.size ≤ b3 := Nat.le_trans O0.1 (Nat.le_of_eq g3.symm)
        have S_b3 : Safe Z EL vm0 h0 b3 := Safe.new (Nat.le_of_eq g3.symm)
        have S_b3' : Safe Z EL vm0 h3 b3 := Safe.ext E3 A0.1 S_b3
        have A' : CHr Z EL s.vm s.heap vm0 h3 := A0.trans (CHr.ext E3 A0.1)
        replace S_b3 := S_b3'
        replace A0 := A'
        replace hk0 := Nat.le_trans hk0 E3.1
        replace O0 : Ext Z.heap h3 := ext_trans O0 E3
        have V_b3 : Arv Z h3 b3 k3 .char (2 : Int32) [(.int 0), (.int 0)] (.int 0) := (Arv.new A3 (by decide)).pad (pad_rep [] (.int 0) 2)
        refine OEndsH.st (S' := T3.setTop (mkF m 126 #[vi p0, vi p1, vi p2, vi p3, vi 2, vi x0, vi x1, vi x2, vi 0, .unset, .unset, .unset] [(.int x0), (.int 0), (.ref b3), (.ref b3)])) (fun _ k => ?_) ?_
        · refine XS.dup X3.here hx rfl (hb hby at_122) rfl rfl ?_
          refine XS.iconst X3.here hx rfl (hb hby at_123) ?_
          refine XS.iload X3.here hx rfl (hb hby at_124) rfl ?_
          exact k
        obtain ⟨cl_b3_4, Ar_b3_4, q_b3_4, S_b3_4, N_b3_4, H_b3_4, G_b3_4⟩ := V_b3
        obtain ⟨T4, h4, X4, e4, W4, st4⟩ := stC X3 hx hZ e3 Ar_b3_4 (j := (0 : Int32)) (inb_of S_b3_4 ⟨by decide, by decide⟩) (g := (mkF m 126 #[vi p0, vi p1, vi p2, vi p3, vi 2, vi x0, vi x1, vi x2, vi 0, .unset, .unset, .unset] [(.int x0), (.int 0), (.ref b3), (.ref b3)])) rfl rfl (hb hby at_126)
        have V_b3_4 : Arv Z h4 b3 k3 .char (2 : Int32) [(.int (nar .char x0)), (.int 0)] (.int 0) := Arv.set Ar_b3_4 q_b3_4 S_b3_4 N_b3_4 H_b3_4 G_b3_4 (fits_nar_char _) W4 0 rfl (Nat.le_of_ble_eq_true rfl)
        refine OEndsH.st st4 ?_
        have S_b3' : Safe Z EL vm0 h4 b3 := Safe.wr W4 S_b3 A0.1 S_b3
        have A' : CHr Z EL s.vm s.heap vm0 h4 := A0.trans (CHr.wr W4 S_b3 A0.1)
        replace S_b3 := S_b3'
        replace A0 := A'
        replace hk0 := Nat.le_trans hk0 (Keep.of_wr W4).1
        replace O0 : Ext Z.heap h4 := ext_wr O0 W4 ge_b3
        replace N0 := Fr.snoc X4 N0 ge_b3
        refine OEndsH.st (S' := T4.setTop (mkF m 131 #[vi p0, vi p1, vi p2, vi p3, vi 2, vi x0, vi x1, vi x2, vi 0, .unset, .unset, .unset] [(.int x1), (.int 1), (.ref b3), (.ref b3)])) (fun _ k => ?_) ?_
        · refine XS.dup X4.here hx rfl (hb hby at_127) rfl rfl ?_
          refine XS.iconst X4.here hx rfl (hb hby at_128) ?_
          refine XS.iload X4.here hx rfl (hb hby at_129) rfl ?_
          exact k
        obtain ⟨cl_b3_5, Ar_b3_5, q_b3_5, S_b3_5, N_b3_5, H_b3_5, G_b3_5⟩ := V_b3_4
        obtain ⟨T5, h5, X5, e5, W5, st5⟩ := stC X4 hx hZ e4 Ar_b3_5 (j := (1 : Int32)) (inb_of S_b3_5 ⟨by decide, by decide⟩) (g := (mkF m 131 #[vi p0, vi p1, vi p2, vi p3, vi 2, vi x0, vi x1, vi x2, vi 0, .unset, .unset, .unset] [(.int x1), (.int 1), (.ref b3), (.ref b3)])) rfl rfl (hb hby at_131)
        have V_b3_5 : Arv Z h5 b3 k3 .char (2 : Int32) [(.int (nar .char x0)), (.int (nar .char x1))] (.int 0) := Arv.set Ar_b3_5 q_b3_5 S_b3_5 N_b3_5 H_b3_5 G_b3_5 (fits_nar_char _) W5 1 rfl (Nat.le_of_ble_eq_true rfl)
        refine OEndsH.st st5 ?_
        have S_b3' : Safe Z EL vm0 h5 b3 := Safe.wr W5 S_b3 A0.1 S_b3
        have A' : CHr Z EL s.vm s.heap vm0 h5 := A0.trans (CHr.wr W5 S_b3 A0.1)
        replace S_b3 := S_b3'
        replace A0 := A'
        replace hk0 := Nat.le_trans hk0 (Keep.of_wr W5).1
        replace O0 : Ext Z.heap h5 := ext_wr O0 W5 ge_b3
        replace N0 := Fr.snoc X5 N0 ge_b3
        refine OEndsH.st (S' := T5.setTop (mkF m 157 #[vi p0, vi p1, vi p2, vi p3, vi 2, vi x0, vi x1, vi x2, vi 0, vr b3, .unset, .unset] [])) (fun _ k => ?_) ?_
        · refine XS.astore X5.here hx rfl (hb hby at_132) rfl rfl (l' := #[vi p0, vi p1, vi p2, vi p3, vi 2, vi x0, vi x1, vi x2, vi 0, vr b3, .unset, .unset]) rfl ?_
          refine XS.goto X5.here hx rfl (pc0 := 134) (pc' := 157) rfl (hb hby at_134) (by decide) (by decide) ?_
          exact k
        obtain ⟨T6, h6, X6, e6, E6, A6, D6, U6, st6⟩ := newO X5 hx hZ hown (wq hw 6 rfl) (wq hw 7 rfl) (wq hw 8 rfl) e5 (g := (mkF m 157 #[vi p0, vi p1, vi p2, vi p3, vi 2, vi x0, vi x1, vi x2, vi 0, vr b3, .unset, .unset] [])) rfl (hb hby at_157) (by decide) (by decide)
        obtain ⟨b6, g6⟩ : ∃ z, z = h5.size := ⟨_, rfl⟩
        rw [← g6] at A6 D6 U6 st6
        refine OEndsH.st st6 ?_
        have ne_b3_b6 : b3 ≠ b6 := Nat.ne_of_lt (Nat.lt_of_lt_of_le V_b3_5.lt (Nat.le_of_eq g6.symm))
        have ge_b6 : Z.heap.size ≤ b6 := Nat.le_trans O0.1 (Nat.le_of_eq g6.symm)
        have S_b6 : Safe Z EL vm0 h5 b6 := Safe.new (Nat.le_of_eq g6.symm)
        replace V_b3_5 := V_b3_5.ext E6
        have S_b3' : Safe Z EL vm0 h6 b3 := Safe.ext E6 A0.1 S_b3
        have S_b6' : Safe Z EL vm0 h6 b6 := Safe.ext E6 A0.1 S_b6
        have A' : CHr Z EL s.vm s.heap vm0 h6 := A0.trans (CHr.ext E6 A0.1)
        replace S_b3 := S_b3'
        replace S_b6 := S_b6'
        replace A0 := A'
        replace hk0 := Nat.le_trans hk0 E6.1
        replace O0 : Ext Z.heap h6 := ext_trans O0 E6
        have F_coder_b6 : Fld Z h6 b6 "java/lang/String" "coder" "B" (.int 0) := D6 (Or.inr (wq hw 32 rfl)) (ty := .byte) (by decide)
        have F_value_b6 : Fld Z h6 b6 "java/lang/String" "value" "[B" .null := D6 (Or.inr (wq hw 34 rfl)) (ty := (.array .byte)) (by decide)
        refine OEndsH.st (S' := T6.setTop (mkF m 163 #[vi p0, vi p1, vi p2, vi p3, vi 2, vi x0, vi x1, vi x2, vi 0, vr b3, .unset, .unset] [(.ref b3), (.ref b6), (.ref b6)])) (fun _ k => ?_) ?_
        · refine XS.dup X6.here hx rfl (hb hby at_160) rfl rfl ?_
          refine XS.aload X6.here hx rfl (hb hby at_161) rfl rfl ?_
          exact k
        simp only [nar16 hx0, nar16 hx1] at V_b3_5
        obtain ⟨_, T7, h7, L7, X7, e7, hQ7, st7⟩ := specC X6 hx hZ rfl hown (wq hw 9 rfl) (wq hw 10 rfl) (wq hw 11 rfl) (by decide) (kc := 2) (ks := 6) (Con.sb (W := 1) (rm_strI1_2 l hD b6 b3 k3 x0 x1 O0 A6 F_value_b6 F_coder_b6 ge_b6 V_b3_5 hx0 hx1) hZ (wq hw 11 rfl) (wq hw 8 rfl) (by decide) (by decide)) e6 (a := b6) (g := (mkF m 163 #[vi p0, vi p1, vi p2, vi p3, vi 2, vi x0, vi x1, vi x2, vi 0, vr b3, .unset, .unset] [(.ref b3), (.ref b6), (.ref b6)])) rfl (by rw [hml]; rfl) (argsL := [(.ref b3)]) (rest := [(.ref b6)]) (lenOf pd_18 rfl) rfl (by show 2 * 0 + _ ≤ _; exact Nat.le_of_eq rfl) (hb hby at_163) (by decide) (by decide)
        obtain ⟨rfl, Nq7, Kq7, Eq7, tq7, kq7, Fv7, hd7⟩ := hQ7
        refine OEndsH.st st7 ?_
        replace N0 := Fr.app N0 Nq7
        replace V_b3_5 := V_b3_5.keep Kq7 (ninS ne_b3_b6 nin0)
        replace A6 := A6.keep Kq7
        have S_b3' : Safe Z EL vm0 h7 b3 := Safe.keep Kq7 (sfS S_b6 sf0) A0.1 S_b3
        have S_b6' : Safe Z EL vm0 h7 b6 := Safe.keep Kq7 (sfS S_b6 sf0) A0.1 S_b6
        have A' : CHr Z EL s.vm s.heap vm0 h7 := A0.trans (CHr.keep Kq7 (sfS S_b6 sf0) A0.1)
        replace S_b3 := S_b3'
        replace S_b6 := S_b6'
        replace A0 := A'
        replace hk0 := Nat.le_trans hk0 Kq7.1
        replace O0 : Ext Z.heap h7 := ext_keep O0 Kq7 (allS ge_b6 all0)
        rcases hd7 with ⟨⟨hl0, hl1⟩, Fc, Vt⟩ | ⟨Fc, Vt⟩
        · refine OEndsH.st (S' := T7.setTop (mkF m 170 #[vi p0, vi p1, vi p2, vi p3, vi 2, vi x0, vi x1, vi x2, vi 0, vr b3, vr b6, .unset] [(.ref b6)])) (fun _ k => ?_) ?_
          · refine XS.astore X7.here hx rfl (hb hby at_166) rfl rfl (l' := #[vi p0, vi p1, vi p2, vi p3, vi 2, vi x0, vi x1, vi x2, vi 0, vr b3, vr b6, .unset]) rfl ?_
            refine XS.aload X7.here hx rfl (hb hby at_168) rfl rfl ?_
            exact k
          obtain ⟨b8, T8, h8, k18, t8, kb8, X8, e8, E8, hS8, hk8, hZ8, hown8, Es8, Fc8, Fv8, V8, -, -, Aq8, -, nes8, st8⟩ := ldcCH X7 hx hZ hown (wq hw 35 rfl) hsa e7 hS0 hk0 hEL (List.mem_of_getElem? (i := 1) rfl) A0.1 (vs := [(.int 110), (.int 97), (.int 109), (.int 101)]) (z := (4 : Int32)) ⟨by decide, by decide⟩ (by decide) rfl (g := (mkF m 170 #[vi p0, vi p1, vi p2, vi p3, vi 2, vi x0, vi x1, vi x2, vi 0, vr b3, vr b6, .unset] [(.ref b6)])) rfl (hb hby at_170) (n := 16) (by decide) (by decide) (by decide) (by decide)
          replace hZ8 : Z.Warmed39 T8.vm := hZ8
          replace hown8 : T8.vm.findClass "com/example/exact_gate/exactgate/NamesRequireOneLinePinLaw" = some m.cls := hown8
          replace S_b3 : Safe Z EL T8.vm h8 b3 := Aq8.safe V_b3_5.lt S_b3
          replace S_b6 : Safe Z EL T8.vm h8 b6 := Aq8.safe A6.lt S_b6
          replace A0 : CHr Z EL s.vm s.heap T8.vm h8 := A0.trans Aq8
          refine OEndsH.st st8 ?_
          have ne_b3_b8 : b3 ≠ b8 := (nes8 b3 S_b3).1
          have ne_b3_t8 : b3 ≠ t8 := (nes8 b3 S_b3).2
          have ne_b6_b8 : b6 ≠ b8 := (nes8 b6 S_b6).1
          have ne_b6_t8 : b6 ≠ t8 := (nes8 b6 S_b6).2
          replace V_b3_5 := V_b3_5.ext E8
          replace A6 := A6.ext E8
          replace Fv7 := Fv7.ext E8
          replace Fc := Fc.ext E8
          replace Vt := Vt.ext E8
          replace O0 : Ext Z.heap h8 := ext_trans O0 E8
          obtain ⟨_, T9, h9, L9, X9, e9, hQ9, st9⟩ := callC X8 hx hZ8 hown8 (wq hw 38 rfl) (wq hw 39 rfl) (wq hw 40 rfl) (wq hw 41 rfl) (by decide) (kc := 0) (ks := 0) (Con.sb (W := 0) (rm_req2_0 l hD b6 b8 tq7 kq7 x0 x1 O0 A6 Fc Fv7 Vt hx0 hx1 hl0 hl1 hb0 hb1) hZ8 (wq hw 41 rfl) (wq hw 40 rfl) (by decide) (by decide)) e8 (g := (mkF m 172 #[vi p0, vi p1, vi p2, vi p3, vi 2, vi x0, vi x1, vi x2, vi 0, vr b3, vr b6, .unset] [(.ref b8), (.ref b6)])) rfl (by rw [hml]; rfl) (argsL := [(.ref b6), (.ref b8)]) (rest := []) (lenOf pd_19 rfl) rfl (by show 2 * 0 + _ ≤ _; exact Nat.le_of_eq rfl) (hb hby at_172) (by decide) (by decide)
          obtain ⟨rfl, Nq9, Hq9⟩ := hQ9
          refine OEndsH.st st9 ?_
          replace N0 := Fr.app N0 Nq9
          replace e9 := e9.trans Hq9
          refine OEndsH.st (S' := T9.setTop (mkF m 189 #[vi p0, vi p1, vi p2, vi p3, vi 2, vi x0, vi x1, vi x2, vi 0, vr b3, vr b6, vr b6] [(.int 1)])) (fun _ k => ?_) ?_
          · refine XS.astore X9.here hx rfl (hb hby at_175) rfl rfl (l' := #[vi p0, vi p1, vi p2, vi p3, vi 2, vi x0, vi x1, vi x2, vi 0, vr b3, vr b6, vr b6]) rfl ?_
            refine XS.aload X9.here hx rfl (hb hby at_177) rfl rfl ?_
            refine XS.aload X9.here hx rfl (hb hby at_179) rfl rfl ?_
            have hq181 : Jvm.Free.XT.acmp .ne ((.ref b6) : Value) ((.ref b6) : Value) = false := (Jvm.Free.XT.aa_ne_f rfl)
            refine Jvm.Free.XT.acmpNo X9.here hx rfl (hb hby at_181) rfl rfl rfl hq181 ?_
            show Steps p.tables e below (T9.setTop (mkF m 184 #[vi p0, vi p1, vi p2, vi p3, vi 2, vi x0, vi x1, vi x2, vi 0, vr b3, vr b6, vr b6] [])) _
            refine XS.iconst X9.here hx rfl (hb hby at_184) ?_
            refine XS.goto X9.here hx rfl (pc0 := 185) (pc' := 189) rfl (hb hby at_185) (by decide) (by decide) ?_
            exact k
          exact OEndsH.ret X9 hx hZ8 hEL e9 hS8 hk8 A0 hret hlk (by decide) (Or.inl ⟨rfl, by simp, _, rfl⟩) (hb hby at_189) (by decide) (by decide) ⟨rfl, N0⟩
        · refine OEndsH.st (S' := T7.setTop (mkF m 170 #[vi p0, vi p1, vi p2, vi p3, vi 2, vi x0, vi x1, vi x2, vi 0, vr b3, vr b6, .unset] [(.ref b6)])) (fun _ k => ?_) ?_
          · refine XS.astore X7.here hx rfl (hb hby at_166) rfl rfl (l' := #[vi p0, vi p1, vi p2, vi p3, vi 2, vi x0, vi x1, vi x2, vi 0, vr b3, vr b6, .unset]) rfl ?_
            refine XS.aload X7.here hx rfl (hb hby at_168) rfl rfl ?_
            exact k
          obtain ⟨b8, T8, h8, k18, t8, kb8, X8, e8, E8, hS8, hk8, hZ8, hown8, Es8, Fc8, Fv8, V8, -, -, Aq8, -, nes8, st8⟩ := ldcCH X7 hx hZ hown (wq hw 35 rfl) hsa e7 hS0 hk0 hEL (List.mem_of_getElem? (i := 1) rfl) A0.1 (vs := [(.int 110), (.int 97), (.int 109), (.int 101)]) (z := (4 : Int32)) ⟨by decide, by decide⟩ (by decide) rfl (g := (mkF m 170 #[vi p0, vi p1, vi p2, vi p3, vi 2, vi x0, vi x1, vi x2, vi 0, vr b3, vr b6, .unset] [(.ref b6)])) rfl (hb hby at_170) (n := 16) (by decide) (by decide) (by decide) (by decide)
          replace hZ8 : Z.Warmed39 T8.vm := hZ8
          replace hown8 : T8.vm.findClass "com/example/exact_gate/exactgate/NamesRequireOneLinePinLaw" = some m.cls := hown8
          replace S_b3 : Safe Z EL T8.vm h8 b3 := Aq8.safe V_b3_5.lt S_b3
          replace S_b6 : Safe Z EL T8.vm h8 b6 := Aq8.safe A6.lt S_b6
          replace A0 : CHr Z EL s.vm s.heap T8.vm h8 := A0.trans Aq8
          refine OEndsH.st st8 ?_
          have ne_b3_b8 : b3 ≠ b8 := (nes8 b3 S_b3).1
          have ne_b3_t8 : b3 ≠ t8 := (nes8 b3 S_b3).2
          have ne_b6_b8 : b6 ≠ b8 := (nes8 b6 S_b6).1
          have ne_b6_t8 : b6 ≠ t8 := (nes8 b6 S_b6).2
          replace V_b3_5 := V_b3_5.ext E8
          replace A6 := A6.ext E8
          replace Fv7 := Fv7.ext E8
          replace Fc := Fc.ext E8
          replace Vt := Vt.ext E8
          replace O0 : Ext Z.heap h8 := ext_trans O0 E8
          obtain ⟨_, T9, h9, L9, X9, e9, hQ9, st9⟩ := callC X8 hx hZ8 hown8 (wq hw 38 rfl) (wq hw 39 rfl) (wq hw 40 rfl) (wq hw 41 rfl) (by decide) (kc := 0) (ks := 0) (Con.sb (W := 0) (rm_req2_1 l hD b6 b8 tq7 kq7 x0 x1 O0 A6 Fc Fv7 Vt hx0 hx1 hb0 hb1) hZ8 (wq hw 41 rfl) (wq hw 40 rfl) (by decide) (by decide)) e8 (g := (mkF m 172 #[vi p0, vi p1, vi p2, vi p3, vi 2, vi x0, vi x1, vi x2, vi 0, vr b3, vr b6, .unset] [(.ref b8), (.ref b6)])) rfl (by rw [hml]; rfl) (argsL := [(.ref b6), (.ref b8)]) (rest := []) (lenOf pd_19 rfl) rfl (by show 2 * 0 + _ ≤ _; exact Nat.le_of_eq rfl) (hb hby at_172) (by decide) (by decide)
          obtain ⟨rfl, Nq9, Hq9⟩ := hQ9
          refine OEndsH.st st9 ?_
          replace N0 := Fr.app N0 Nq9
          replace e9 := e9.trans Hq9
          refine OEndsH.st (S' := T9.setTop (mkF m 189 #[vi p0, vi p1, vi p2, vi p3, vi 2, vi x0, vi x1, vi x2, vi 0, vr b3, vr b6, vr b6] [(.int 1)])) (fun _ k => ?_) ?_
          · refine XS.astore X9.here hx rfl (hb hby at_175) rfl rfl (l' := #[vi p0, vi p1, vi p2, vi p3, vi 2, vi x0, vi x1, vi x2, vi 0, vr b3, vr b6, vr b6]) rfl ?_
            refine XS.aload X9.here hx rfl (hb hby at_177) rfl rfl ?_
            refine XS.aload X9.here hx rfl (hb hby at_179) rfl rfl ?_
            have hq181 : Jvm.Free.XT.acmp .ne ((.ref b6) : Value) ((.ref b6) : Value) = false := (Jvm.Free.XT.aa_ne_f rfl)
            refine Jvm.Free.XT.acmpNo X9.here hx rfl (hb hby at_181) rfl rfl rfl hq181 ?_
            show Steps p.tables e below (T9.setTop (mkF m 184 #[vi p0, vi p1, vi p2, vi p3, vi 2, vi x0, vi x1, vi x2, vi 0, vr b3, vr b6, vr b6] [])) _
            refine XS.iconst X9.here hx rfl (hb hby at_184) ?_
            refine XS.goto X9.here hx rfl (pc0 := 185) (pc' := 189) rfl (hb hby at_185) (by decide) (by decide) ?_
            exact k
          exact OEndsH.ret X9 hx hZ8 hEL e9 hS8 hk8 A0 hret hlk (by decide) (Or.inl ⟨rfl, by simp, _, rfl⟩) (hb hby at_189) (by decide) (by decide) ⟨rfl, N0⟩
  · refine OEndsH.st (S' := T0.setTop (mkF m 31 #[vi p0, vi p1, vi p2, vi p3, vi 3, vi x0, vi x1, vi x2, vi 0, .unset, .unset, .unset] [(.int x0)])) (fun _ k => ?_) ?_
    · refine XS.iconst X0.here hx rfl (hb hby at_20) ?_
      refine XS.istore X0.here hx rfl (hb hby at_21) rfl (l' := #[vi p0, vi p1, vi p2, vi p3, vi 3, vi x0, vi x1, vi x2, vi 0, .unset, .unset, .unset]) rfl ?_
      refine XS.iload X0.here hx rfl (hb hby at_23) rfl ?_
      refine XS.iconst X0.here hx rfl (hb hby at_25) ?_
      show Steps p.tables e below (T0.setTop (mkF m 26 #[vi p0, vi p1, vi p2, vi p3, vi 3, vi x0, vi x1, vi x2, vi 0, .unset, .unset, .unset] [(.int 1), (.int 3)])) _
      refine XS.icmpNo X0.here hx rfl (hb hby at_26) rfl (flt (by decide)).1 ?_
      refine XS.iload X0.here hx rfl (hb hby at_29) rfl ?_
      exact k
    obtain ⟨_, T1, h1, L1, X1, e1, hQ1, st1⟩ := callC X0 hx hZ hown (wq hw 1 rfl) (wq hw 2 rfl) (wq hw 3 rfl) (wq hw 4 rfl) (by decide) (kc := 0) (ks := 0) (Con.sb (W := 0) (rm_isBr l hD x0 O0) hZ (wq hw 4 rfl) (wq hw 3 rfl) (by decide) (by decide)) e0 (g := (mkF m 31 #[vi p0, vi p1, vi p2, vi p3, vi 3, vi x0, vi x1, vi x2, vi 0, .unset, .unset, .unset] [(.int x0)])) rfl (by rw [hml]; rfl) (argsL := [(.int x0)]) (rest := []) (lenOf pd_20 rfl) rfl (by show 2 * 0 + _ ≤ _; exact Nat.le_of_eq rfl) (hb hby at_31) (by decide) (by decide)
    obtain ⟨r1, rfl, hr1, Nq1, Hq1⟩ := hQ1
    refine OEndsH.st st1 ?_
    replace N0 := Fr.app N0 Nq1
    replace e1 := e1.trans Hq1
    rcases hr1 with rfl | ⟨rfl, hb0⟩
    · refine OEndsH.st (S' := T1.setTop (mkF m 48 #[vi p0, vi p1, vi p2, vi p3, vi 3, vi x0, vi x1, vi x2, vi 1, .unset, .unset, .unset] [(.int x1)])) (fun _ k => ?_) ?_
      · refine XS.ifNo X1.here hx rfl (hb hby at_34) rfl ((if0 _ _).trans (feq (by decide)).1) ?_
        refine XS.iconst X1.here hx rfl (hb hby at_37) ?_
        refine XS.istore X1.here hx rfl (hb hby at_38) rfl (l' := #[vi p0, vi p1, vi p2, vi p3, vi 3, vi x0, vi x1, vi x2, vi 1, .unset, .unset, .unset]) rfl ?_
        refine XS.iload X1.here hx rfl (hb hby at_40) rfl ?_
        show Steps p.tables e below (T1.setTop (mkF m 42 #[vi p0, vi p1, vi p2, vi p3, vi 3, vi x0, vi x1, vi x2, vi 1, .unset, .unset, .unset] [(.int 3)])) _
        refine XS.iconst X1.here hx rfl (hb hby at_42) ?_
        refine XS.icmpNo X1.here hx rfl (hb hby at_43) rfl (flt (by decide)).1 ?_
        refine XS.iload X1.here hx rfl (hb hby at_46) rfl ?_
        exact k
      obtain ⟨_, T2, h2, L2, X2, e2, hQ2, st2⟩ := callC X1 hx hZ hown (wq hw 1 rfl) (wq hw 2 rfl) (wq hw 3 rfl) (wq hw 4 rfl) (by decide) (kc := 0) (ks := 0) (Con.sb (W := 0) (rm_isBr l hD x1 O0) hZ (wq hw 4 rfl) (wq hw 3 rfl) (by decide) (by decide)) e1 (g := (mkF m 48 #[vi p0, vi p1, vi p2, vi p3, vi 3, vi x0, vi x1, vi x2, vi 1, .unset, .unset, .unset] [(.int x1)])) rfl (by rw [hml]; rfl) (argsL := [(.int x1)]) (rest := []) (lenOf pd_20 rfl) rfl (by show 2 * 0 + _ ≤ _; exact Nat.le_of_eq rfl) (hb hby at_48) (by decide) (by decide)
      obtain ⟨r2, rfl, hr2, Nq2, Hq2⟩ := hQ2
      refine OEndsH.st st2 ?_
      replace N0 := Fr.app N0 Nq2
      replace e2 := e2.trans Hq2
      rcases hr2 with rfl | ⟨rfl, hb1⟩
      · refine OEndsH.st (S' := T2.setTop (mkF m 65 #[vi p0, vi p1, vi p2, vi p3, vi 3, vi x0, vi x1, vi x2, vi 1, .unset, .unset, .unset] [(.int x2)])) (fun _ k => ?_) ?_
        · refine XS.ifNo X2.here hx rfl (hb hby at_51) rfl ((if0 _ _).trans (feq (by decide)).1) ?_
          refine XS.iconst X2.here hx rfl (hb hby at_54) ?_
          refine XS.istore X2.here hx rfl (hb hby at_55) rfl (l' := #[vi p0, vi p1, vi p2, vi p3, vi 3, vi x0, vi x1, vi x2, vi 1, .unset, .unset, .unset]) rfl ?_
          refine XS.iload X2.here hx rfl (hb hby at_57) rfl ?_
          show Steps p.tables e below (T2.setTop (mkF m 59 #[vi p0, vi p1, vi p2, vi p3, vi 3, vi x0, vi x1, vi x2, vi 1, .unset, .unset, .unset] [(.int 3)])) _
          refine XS.iconst X2.here hx rfl (hb hby at_59) ?_
          refine XS.icmpNo X2.here hx rfl (hb hby at_60) rfl (flt (by decide)).1 ?_
          refine XS.iload X2.here hx rfl (hb hby at_63) rfl ?_
          exact k
        obtain ⟨_, T3, h3, L3, X3, e3, hQ3, st3⟩ := callC X2 hx hZ hown (wq hw 1 rfl) (wq hw 2 rfl) (wq hw 3 rfl) (wq hw 4 rfl) (by decide) (kc := 0) (ks := 0) (Con.sb (W := 0) (rm_isBr l hD x2 O0) hZ (wq hw 4 rfl) (wq hw 3 rfl) (by decide) (by decide)) e2 (g := (mkF m 65 #[vi p0, vi p1, vi p2, vi p3, vi 3, vi x0, vi x1, vi x2, vi 1, .unset, .unset, .unset] [(.int x2)])) rfl (by rw [hml]; rfl) (argsL := [(.int x2)]) (rest := []) (lenOf pd_20 rfl) rfl (by show 2 * 0 + _ ≤ _; exact Nat.le_of_eq rfl) (hb hby at_65) (by decide) (by decide)
        obtain ⟨r3, rfl, hr3, Nq3, Hq3⟩ := hQ3
        refine OEndsH.st st3 ?_
        replace N0 := Fr.app N0 Nq3
        replace e3 := e3.trans Hq3
        rcases hr3 with rfl | ⟨rfl, hb2⟩
        · refine OEndsH.st (S' := T3.setTop (mkF m 80 #[vi p0, vi p1, vi p2, vi p3, vi 3, vi x0, vi x1, vi x2, vi 1, .unset, .unset, .unset] [(.int 1)])) (fun _ k => ?_) ?_
          · refine XS.ifNo X3.here hx rfl (hb hby at_68) rfl ((if0 _ _).trans (feq (by decide)).1) ?_
            refine XS.iconst X3.here hx rfl (hb hby at_71) ?_
            refine XS.istore X3.here hx rfl (hb hby at_72) rfl (l' := #[vi p0, vi p1, vi p2, vi p3, vi 3, vi x0, vi x1, vi x2, vi 1, .unset, .unset, .unset]) rfl ?_
            refine XS.iload X3.here hx rfl (hb hby at_74) rfl ?_
            show Steps p.tables e below (T3.setTop (mkF m 76 #[vi p0, vi p1, vi p2, vi p3, vi 3, vi x0, vi x1, vi x2, vi 1, .unset, .unset, .unset] [(.int 1)])) _
            refine XS.ifNo X3.here hx rfl (hb hby at_76) rfl ((if0 _ _).trans (feq (by decide)).1) ?_
            refine XS.iconst X3.here hx rfl (hb hby at_79) ?_
            exact k
          exact OEndsH.ret X3 hx hZ hEL e3 hS0 hk0 A0 hret hlk (by decide) (Or.inl ⟨rfl, by simp, _, rfl⟩) (hb hby at_80) (by decide) (by decide) ⟨rfl, N0⟩
        · refine OEndsH.st (S' := T3.setTop (mkF m 80 #[vi p0, vi p1, vi p2, vi p3, vi 3, vi x0, vi x1, vi x2, vi 1, .unset, .unset, .unset] [(.int 1)])) (fun _ k => ?_) ?_
          · refine XS.ifYes X3.here hx rfl (pc0 := 68) (pc' := 74) rfl (hb hby at_68) rfl ((if0 _ _).trans (teq (by decide)).1) (by decide) (by decide) ?_
            refine XS.iload X3.here hx rfl (hb hby at_74) rfl ?_
            refine XS.ifNo X3.here hx rfl (hb hby at_76) rfl ((if0 _ _).trans (feq (by decide)).1) ?_
            refine XS.iconst X3.here hx rfl (hb hby at_79) ?_
            exact k
          exact OEndsH.ret X3 hx hZ hEL e3 hS0 hk0 A0 hret hlk (by decide) (Or.inl ⟨rfl, by simp, _, rfl⟩) (hb hby at_80) (by decide) (by decide) ⟨rfl, N0⟩
      · refine OEndsH.st (S' := T2.setTop (mkF m 65 #[vi p0, vi p1, vi p2, vi p3, vi 3, vi x0, vi x1, vi x2, vi 1, .unset, .unset, .unset] [(.int x2)])) (fun _ k => ?_) ?_
        · refine XS.ifYes X2.here hx rfl (pc0 := 51) (pc' := 57) rfl (hb hby at_51) rfl ((if0 _ _).trans (teq (by decide)).1) (by decide) (by decide) ?_
          refine XS.iload X2.here hx rfl (hb hby at_57) rfl ?_
          refine XS.iconst X2.here hx rfl (hb hby at_59) ?_
          refine XS.icmpNo X2.here hx rfl (hb hby at_60) rfl (flt (by decide)).1 ?_
          show Steps p.tables e below (T2.setTop (mkF m 63 #[vi p0, vi p1, vi p2, vi p3, vi 3, vi x0, vi x1, vi x2, vi 1, .unset, .unset, .unset] [])) _
          refine XS.iload X2.here hx rfl (hb hby at_63) rfl ?_
          exact k
        obtain ⟨_, T3, h3, L3, X3, e3, hQ3, st3⟩ := callC X2 hx hZ hown (wq hw 1 rfl) (wq hw 2 rfl) (wq hw 3 rfl) (wq hw 4 rfl) (by decide) (kc := 0) (ks := 0) (Con.sb (W := 0) (rm_isBr l hD x2 O0) hZ (wq hw 4 rfl) (wq hw 3 rfl) (by decide) (by decide)) e2 (g := (mkF m 65 #[vi p0, vi p1, vi p2, vi p3, vi 3, vi x0, vi x1, vi x2, vi 1, .unset, .unset, .unset] [(.int x2)])) rfl (by rw [hml]; rfl) (argsL := [(.int x2)]) (rest := []) (lenOf pd_20 rfl) rfl (by show 2 * 0 + _ ≤ _; exact Nat.le_of_eq rfl) (hb hby at_65) (by decide) (by decide)
        obtain ⟨r3, rfl, hr3, Nq3, Hq3⟩ := hQ3
        refine OEndsH.st st3 ?_
        replace N0 := Fr.app N0 Nq3
        replace e3 := e3.trans Hq3
        rcases hr3 with rfl | ⟨rfl, hb2⟩
        · refine OEndsH.st (S' := T3.setTop (mkF m 80 #[vi p0, vi p1, vi p2, vi p3, vi 3, vi x0, vi x1, vi x2, vi 1, .unset, .unset, .unset] [(.int 1)])) (fun _ k => ?_) ?_
          · refine XS.ifNo X3.here hx rfl (hb hby at_68) rfl ((if0 _ _).trans (feq (by decide)).1) ?_
            refine XS.iconst X3.here hx rfl (hb hby at_71) ?_
            refine XS.istore X3.here hx rfl (hb hby at_72) rfl (l' := #[vi p0, vi p1, vi p2, vi p3, vi 3, vi x0, vi x1, vi x2, vi 1, .unset, .unset, .unset]) rfl ?_
            refine XS.iload X3.here hx rfl (hb hby at_74) rfl ?_
            show Steps p.tables e below (T3.setTop (mkF m 76 #[vi p0, vi p1, vi p2, vi p3, vi 3, vi x0, vi x1, vi x2, vi 1, .unset, .unset, .unset] [(.int 1)])) _
            refine XS.ifNo X3.here hx rfl (hb hby at_76) rfl ((if0 _ _).trans (feq (by decide)).1) ?_
            refine XS.iconst X3.here hx rfl (hb hby at_79) ?_
            exact k
          exact OEndsH.ret X3 hx hZ hEL e3 hS0 hk0 A0 hret hlk (by decide) (Or.inl ⟨rfl, by simp, _, rfl⟩) (hb hby at_80) (by decide) (by decide) ⟨rfl, N0⟩
        · refine OEndsH.st (S' := T3.setTop (mkF m 80 #[vi p0, vi p1, vi p2, vi p3, vi 3, vi x0, vi x1, vi x2, vi 1, .unset, .unset, .unset] [(.int 1)])) (fun _ k => ?_) ?_
          · refine XS.ifYes X3.here hx rfl (pc0 := 68) (pc' := 74) rfl (hb hby at_68) rfl ((if0 _ _).trans (teq (by decide)).1) (by decide) (by decide) ?_
            refine XS.iload X3.here hx rfl (hb hby at_74) rfl ?_
            refine XS.ifNo X3.here hx rfl (hb hby at_76) rfl ((if0 _ _).trans (feq (by decide)).1) ?_
            refine XS.iconst X3.here hx rfl (hb hby at_79) ?_
            exact k
          exact OEndsH.ret X3 hx hZ hEL e3 hS0 hk0 A0 hret hlk (by decide) (Or.inl ⟨rfl, by simp, _, rfl⟩) (hb hby at_80) (by decide) (by decide) ⟨rfl, N0⟩
    · refine OEndsH.st (S' := T1.setTop (mkF m 48 #[vi p0, vi p1, vi p2, vi p3, vi 3, vi x0, vi x1, vi x2, vi 0, .unset, .unset, .unset] [(.int x1)])) (fun _ k => ?_) ?_
      · refine XS.ifYes X1.here hx rfl (pc0 := 34) (pc' := 40) rfl (hb hby at_34) rfl ((if0 _ _).trans (teq (by decide)).1) (by decide) (by decide) ?_
        refine XS.iload X1.here hx rfl (hb hby at_40) rfl ?_
        refine XS.iconst X1.here hx rfl (hb hby at_42) ?_
        refine XS.icmpNo X1.here hx rfl (hb hby at_43) rfl (flt (by decide)).1 ?_
        show Steps p.tables e below (T1.setTop (mkF m 46 #[vi p0, vi p1, vi p2, vi p3, vi 3, vi x0, vi x1, vi x2, vi 0, .unset, .unset, .unset] [])) _
        refine XS.iload X1.here hx rfl (hb hby at_46) rfl ?_
        exact k
      obtain ⟨_, T2, h2, L2, X2, e2, hQ2, st2⟩ := callC X1 hx hZ hown (wq hw 1 rfl) (wq hw 2 rfl) (wq hw 3 rfl) (wq hw 4 rfl) (by decide) (kc := 0) (ks := 0) (Con.sb (W := 0) (rm_isBr l hD x1 O0) hZ (wq hw 4 rfl) (wq hw 3 rfl) (by decide) (by decide)) e1 (g := (mkF m 48 #[vi p0, vi p1, vi p2, vi p3, vi 3, vi x0, vi x1, vi x2, vi 0, .unset, .unset, .unset] [(.int x1)])) rfl (by rw [hml]; rfl) (argsL := [(.int x1)]) (rest := []) (lenOf pd_20 rfl) rfl (by show 2 * 0 + _ ≤ _; exact Nat.le_of_eq rfl) (hb hby at_48) (by decide) (by decide)
      obtain ⟨r2, rfl, hr2, Nq2, Hq2⟩ := hQ2
      refine OEndsH.st st2 ?_
      replace N0 := Fr.app N0 Nq2
      replace e2 := e2.trans Hq2
      rcases hr2 with rfl | ⟨rfl, hb1⟩
      · refine OEndsH.st (S' := T2.setTop (mkF m 65 #[vi p0, vi p1, vi p2, vi p3, vi 3, vi x0, vi x1, vi x2, vi 1, .unset, .unset, .unset] [(.int x2)])) (fun _ k => ?_) ?_
        · refine XS.ifNo X2.here hx rfl (hb hby at_51) rfl ((if0 _ _).trans (feq (by decide)).1) ?_
          refine XS.iconst X2.here hx rfl (hb hby at_54) ?_
          refine XS.istore X2.here hx rfl (hb hby at_55) rfl (l' := #[vi p0, vi p1, vi p2, vi p3, vi 3, vi x0, vi x1, vi x2, vi 1, .unset, .unset, .unset]) rfl ?_
          refine XS.iload X2.here hx rfl (hb hby at_57) rfl ?_
          show Steps p.tables e below (T2.setTop (mkF m 59 #[vi p0, vi p1, vi p2, vi p3, vi 3, vi x0, vi x1, vi x2, vi 1, .unset, .unset, .unset] [(.int 3)])) _
          refine XS.iconst X2.here hx rfl (hb hby at_59) ?_
          refine XS.icmpNo X2.here hx rfl (hb hby at_60) rfl (flt (by decide)).1 ?_
          refine XS.iload X2.here hx rfl (hb hby at_63) rfl ?_
          exact k
        obtain ⟨_, T3, h3, L3, X3, e3, hQ3, st3⟩ := callC X2 hx hZ hown (wq hw 1 rfl) (wq hw 2 rfl) (wq hw 3 rfl) (wq hw 4 rfl) (by decide) (kc := 0) (ks := 0) (Con.sb (W := 0) (rm_isBr l hD x2 O0) hZ (wq hw 4 rfl) (wq hw 3 rfl) (by decide) (by decide)) e2 (g := (mkF m 65 #[vi p0, vi p1, vi p2, vi p3, vi 3, vi x0, vi x1, vi x2, vi 1, .unset, .unset, .unset] [(.int x2)])) rfl (by rw [hml]; rfl) (argsL := [(.int x2)]) (rest := []) (lenOf pd_20 rfl) rfl (by show 2 * 0 + _ ≤ _; exact Nat.le_of_eq rfl) (hb hby at_65) (by decide) (by decide)
        obtain ⟨r3, rfl, hr3, Nq3, Hq3⟩ := hQ3
        refine OEndsH.st st3 ?_
        replace N0 := Fr.app N0 Nq3
        replace e3 := e3.trans Hq3
        rcases hr3 with rfl | ⟨rfl, hb2⟩
        · refine OEndsH.st (S' := T3.setTop (mkF m 80 #[vi p0, vi p1, vi p2, vi p3, vi 3, vi x0, vi x1, vi x2, vi 1, .unset, .unset, .unset] [(.int 1)])) (fun _ k => ?_) ?_
          · refine XS.ifNo X3.here hx rfl (hb hby at_68) rfl ((if0 _ _).trans (feq (by decide)).1) ?_
            refine XS.iconst X3.here hx rfl (hb hby at_71) ?_
            refine XS.istore X3.here hx rfl (hb hby at_72) rfl (l' := #[vi p0, vi p1, vi p2, vi p3, vi 3, vi x0, vi x1, vi x2, vi 1, .unset, .unset, .unset]) rfl ?_
            refine XS.iload X3.here hx rfl (hb hby at_74) rfl ?_
            show Steps p.tables e below (T3.setTop (mkF m 76 #[vi p0, vi p1, vi p2, vi p3, vi 3, vi x0, vi x1, vi x2, vi 1, .unset, .unset, .unset] [(.int 1)])) _
            refine XS.ifNo X3.here hx rfl (hb hby at_76) rfl ((if0 _ _).trans (feq (by decide)).1) ?_
            refine XS.iconst X3.here hx rfl (hb hby at_79) ?_
            exact k
          exact OEndsH.ret X3 hx hZ hEL e3 hS0 hk0 A0 hret hlk (by decide) (Or.inl ⟨rfl, by simp, _, rfl⟩) (hb hby at_80) (by decide) (by decide) ⟨rfl, N0⟩
        · refine OEndsH.st (S' := T3.setTop (mkF m 80 #[vi p0, vi p1, vi p2, vi p3, vi 3, vi x0, vi x1, vi x2, vi 1, .unset, .unset, .unset] [(.int 1)])) (fun _ k => ?_) ?_
          · refine XS.ifYes X3.here hx rfl (pc0 := 68) (pc' := 74) rfl (hb hby at_68) rfl ((if0 _ _).trans (teq (by decide)).1) (by decide) (by decide) ?_
            refine XS.iload X3.here hx rfl (hb hby at_74) rfl ?_
            refine XS.ifNo X3.here hx rfl (hb hby at_76) rfl ((if0 _ _).trans (feq (by decide)).1) ?_
            refine XS.iconst X3.here hx rfl (hb hby at_79) ?_
            exact k
          exact OEndsH.ret X3 hx hZ hEL e3 hS0 hk0 A0 hret hlk (by decide) (Or.inl ⟨rfl, by simp, _, rfl⟩) (hb hby at_80) (by decide) (by decide) ⟨rfl, N0⟩
      · refine OEndsH.st (S' := T2.setTop (mkF m 65 #[vi p0, vi p1, vi p2, vi p3, vi 3, vi x0, vi x1, vi x2, vi 0, .unset, .unset, .unset] [(.int x2)])) (fun _ k => ?_) ?_
        · refine XS.ifYes X2.here hx rfl (pc0 := 51) (pc' := 57) rfl (hb hby at_51) rfl ((if0 _ _).trans (teq (by decide)).1) (by decide) (by decide) ?_
          refine XS.iload X2.here hx rfl (hb hby at_57) rfl ?_
          refine XS.iconst X2.here hx rfl (hb hby at_59) ?_
          refine XS.icmpNo X2.here hx rfl (hb hby at_60) rfl (flt (by decide)).1 ?_
          show Steps p.tables e below (T2.setTop (mkF m 63 #[vi p0, vi p1, vi p2, vi p3, vi 3, vi x0, vi x1, vi x2, vi 0, .unset, .unset, .unset] [])) _
          refine XS.iload X2.here hx rfl (hb hby at_63) rfl ?_
          exact k
        obtain ⟨_, T3, h3, L3, X3, e3, hQ3, st3⟩ := callC X2 hx hZ hown (wq hw 1 rfl) (wq hw 2 rfl) (wq hw 3 rfl) (wq hw 4 rfl) (by decide) (kc := 0) (ks := 0) (Con.sb (W := 0) (rm_isBr l hD x2 O0) hZ (wq hw 4 rfl) (wq hw 3 rfl) (by decide) (by decide)) e2 (g := (mkF m 65 #[vi p0, vi p1, vi p2, vi p3, vi 3, vi x0, vi x1, vi x2, vi 0, .unset, .unset, .unset] [(.int x2)])) rfl (by rw [hml]; rfl) (argsL := [(.int x2)]) (rest := []) (lenOf pd_20 rfl) rfl (by show 2 * 0 + _ ≤ _; exact Nat.le_of_eq rfl) (hb hby at_65) (by decide) (by decide)
        obtain ⟨r3, rfl, hr3, Nq3, Hq3⟩ := hQ3
        refine OEndsH.st st3 ?_
        replace N0 := Fr.app N0 Nq3
        replace e3 := e3.trans Hq3
        rcases hr3 with rfl | ⟨rfl, hb2⟩
        · refine OEndsH.st (S' := T3.setTop (mkF m 80 #[vi p0, vi p1, vi p2, vi p3, vi 3, vi x0, vi x1, vi x2, vi 1, .unset, .unset, .unset] [(.int 1)])) (fun _ k => ?_) ?_
          · refine XS.ifNo X3.here hx rfl (hb hby at_68) rfl ((if0 _ _).trans (feq (by decide)).1) ?_
            refine XS.iconst X3.here hx rfl (hb hby at_71) ?_
            refine XS.istore X3.here hx rfl (hb hby at_72) rfl (l' := #[vi p0, vi p1, vi p2, vi p3, vi 3, vi x0, vi x1, vi x2, vi 1, .unset, .unset, .unset]) rfl ?_
            refine XS.iload X3.here hx rfl (hb hby at_74) rfl ?_
            show Steps p.tables e below (T3.setTop (mkF m 76 #[vi p0, vi p1, vi p2, vi p3, vi 3, vi x0, vi x1, vi x2, vi 1, .unset, .unset, .unset] [(.int 1)])) _
            refine XS.ifNo X3.here hx rfl (hb hby at_76) rfl ((if0 _ _).trans (feq (by decide)).1) ?_
            refine XS.iconst X3.here hx rfl (hb hby at_79) ?_
            exact k
          exact OEndsH.ret X3 hx hZ hEL e3 hS0 hk0 A0 hret hlk (by decide) (Or.inl ⟨rfl, by simp, _, rfl⟩) (hb hby at_80) (by decide) (by decide) ⟨rfl, N0⟩
        · refine OEndsH.st (S' := T3.setTop (mkF m 138 #[vi p0, vi p1, vi p2, vi p3, vi 3, vi x0, vi x1, vi x2, vi 0, .unset, .unset, .unset] [(.int 3)])) (fun _ k => ?_) ?_
          · refine XS.ifYes X3.here hx rfl (pc0 := 68) (pc' := 74) rfl (hb hby at_68) rfl ((if0 _ _).trans (teq (by decide)).1) (by decide) (by decide) ?_
            refine XS.iload X3.here hx rfl (hb hby at_74) rfl ?_
            refine XS.ifYes X3.here hx rfl (pc0 := 76) (pc' := 81) rfl (hb hby at_76) rfl ((if0 _ _).trans (teq (by decide)).1) (by decide) (by decide) ?_
            refine XS.iload X3.here hx rfl (hb hby at_81) rfl ?_
            show Steps p.tables e below (T3.setTop (mkF m 83 #[vi p0, vi p1, vi p2, vi p3, vi 3, vi x0, vi x1, vi x2, vi 0, .unset, .unset, .unset] [(.int 3)])) _
            refine XS.ifYes X3.here hx rfl (pc0 := 83) (pc' := 94) rfl (hb hby at_83) rfl ((if0 _ _).trans (feq (by decide)).2) (by decide) (by decide) ?_
            refine XS.iload X3.here hx rfl (hb hby at_94) rfl ?_
            refine XS.iconst X3.here hx rfl (hb hby at_96) ?_
            refine XS.icmpYes X3.here hx rfl (pc0 := 97) (pc' := 113) rfl (hb hby at_97) rfl (feq (by decide)).2 (by decide) (by decide) ?_
            show Steps p.tables e below (T3.setTop (mkF m 113 #[vi p0, vi p1, vi p2, vi p3, vi 3, vi x0, vi x1, vi x2, vi 0, .unset, .unset, .unset] [])) _
            refine XS.iload X3.here hx rfl (hb hby at_113) rfl ?_
            refine XS.iconst X3.here hx rfl (hb hby at_115) ?_
            refine XS.icmpYes X3.here hx rfl (pc0 := 116) (pc' := 137) rfl (hb hby at_116) rfl (feq (by decide)).2 (by decide) (by decide) ?_
            refine XS.iconst X3.here hx rfl (hb hby at_137) ?_
            exact k
          obtain ⟨T4, h4, k4, X4, e4, E4, A4, st4⟩ := newP X3 hx hZ (wq hw 5 rfl) e3 (g := (mkF m 138 #[vi p0, vi p1, vi p2, vi p3, vi 3, vi x0, vi x1, vi x2, vi 0, .unset, .unset, .unset] [(.int 3)])) rfl (hb hby at_138) rfl (by decide) (cap := 3) (by decide) (by decide) (by decide) (by decide)
          obtain ⟨b4, g4⟩ : ∃ z, z = h0.size := ⟨_, rfl⟩
          rw [← g4] at A4 st4
          refine OEndsH.st st4 ?_
          have ge_b4 : Z.heap.size ≤ b4 := Nat.le_trans O0.1 (Nat.le_of_eq g4.symm)
          have S_b4 : Safe Z EL vm0 h0 b4 := Safe.new (Nat.le_of_eq g4.symm)
          have S_b4' : Safe Z EL vm0 h4 b4 := Safe.ext E4 A0.1 S_b4
          have A' : CHr Z EL s.vm s.heap vm0 h4 := A0.trans (CHr.ext E4 A0.1)
          replace S_b4 := S_b4'
          replace A0 := A'
          replace hk0 := Nat.le_trans hk0 E4.1
          replace O0 : Ext Z.heap h4 := ext_trans O0 E4
          have V_b4 : Arv Z h4 b4 k4 .char (3 : Int32) [(.int 0), (.int 0), (.int 0)] (.int 0) := (Arv.new A4 (by decide)).pad (pad_rep [] (.int 0) 3)
          refine OEndsH.st (S' := T4.setTop (mkF m 144 #[vi p0, vi p1, vi p2, vi p3, vi 3, vi x0, vi x1, vi x2, vi 0, .unset, .unset, .unset] [(.int x0), (.int 0), (.ref b4), (.ref b4)])) (fun _ k => ?_) ?_
          · refine XS.dup X4.here hx rfl (hb hby at_140) rfl rfl ?_
            refine XS.iconst X4.here hx rfl (hb hby at_141) ?_
            refine XS.iload X4.here hx rfl (hb hby at_142) rfl ?_
            exact k
          obtain ⟨cl_b4_5, Ar_b4_5, q_b4_5, S_b4_5, N_b4_5, H_b4_5, G_b4_5⟩ := V_b4
          obtain ⟨T5, h5, X5, e5, W5, st5⟩ := stC X4 hx hZ e4 Ar_b4_5 (j := (0 : Int32)) (inb_of S_b4_5 ⟨by decide, by decide⟩) (g := (mkF m 144 #[vi p0, vi p1, vi p2, vi p3, vi 3, vi x0, vi x1, vi x2, vi 0, .unset, .unset, .unset] [(.int x0), (.int 0), (.ref b4), (.ref b4)])) rfl rfl (hb hby at_144)
          have V_b4_5 : Arv Z h5 b4 k4 .char (3 : Int32) [(.int (nar .char x0)), (.int 0), (.int 0)] (.int 0) := Arv.set Ar_b4_5 q_b4_5 S_b4_5 N_b4_5 H_b4_5 G_b4_5 (fits_nar_char _) W5 0 rfl (Nat.le_of_ble_eq_true rfl)
          refine OEndsH.st st5 ?_
          have S_b4' : Safe Z EL vm0 h5 b4 := Safe.wr W5 S_b4 A0.1 S_b4
          have A' : CHr Z EL s.vm s.heap vm0 h5 := A0.trans (CHr.wr W5 S_b4 A0.1)
          replace S_b4 := S_b4'
          replace A0 := A'
          replace hk0 := Nat.le_trans hk0 (Keep.of_wr W5).1
          replace O0 : Ext Z.heap h5 := ext_wr O0 W5 ge_b4
          replace N0 := Fr.snoc X5 N0 ge_b4
          refine OEndsH.st (S' := T5.setTop (mkF m 149 #[vi p0, vi p1, vi p2, vi p3, vi 3, vi x0, vi x1, vi x2, vi 0, .unset, .unset, .unset] [(.int x1), (.int 1), (.ref b4), (.ref b4)])) (fun _ k => ?_) ?_
          · refine XS.dup X5.here hx rfl (hb hby at_145) rfl rfl ?_
            refine XS.iconst X5.here hx rfl (hb hby at_146) ?_
            refine XS.iload X5.here hx rfl (hb hby at_147) rfl ?_
            exact k
          obtain ⟨cl_b4_6, Ar_b4_6, q_b4_6, S_b4_6, N_b4_6, H_b4_6, G_b4_6⟩ := V_b4_5
          obtain ⟨T6, h6, X6, e6, W6, st6⟩ := stC X5 hx hZ e5 Ar_b4_6 (j := (1 : Int32)) (inb_of S_b4_6 ⟨by decide, by decide⟩) (g := (mkF m 149 #[vi p0, vi p1, vi p2, vi p3, vi 3, vi x0, vi x1, vi x2, vi 0, .unset, .unset, .unset] [(.int x1), (.int 1), (.ref b4), (.ref b4)])) rfl rfl (hb hby at_149)
          have V_b4_6 : Arv Z h6 b4 k4 .char (3 : Int32) [(.int (nar .char x0)), (.int (nar .char x1)), (.int 0)] (.int 0) := Arv.set Ar_b4_6 q_b4_6 S_b4_6 N_b4_6 H_b4_6 G_b4_6 (fits_nar_char _) W6 1 rfl (Nat.le_of_ble_eq_true rfl)
          refine OEndsH.st st6 ?_
          have S_b4' : Safe Z EL vm0 h6 b4 := Safe.wr W6 S_b4 A0.1 S_b4
          have A' : CHr Z EL s.vm s.heap vm0 h6 := A0.trans (CHr.wr W6 S_b4 A0.1)
          replace S_b4 := S_b4'
          replace A0 := A'
          replace hk0 := Nat.le_trans hk0 (Keep.of_wr W6).1
          replace O0 : Ext Z.heap h6 := ext_wr O0 W6 ge_b4
          replace N0 := Fr.snoc X6 N0 ge_b4
          refine OEndsH.st (S' := T6.setTop (mkF m 154 #[vi p0, vi p1, vi p2, vi p3, vi 3, vi x0, vi x1, vi x2, vi 0, .unset, .unset, .unset] [(.int x2), (.int 2), (.ref b4), (.ref b4)])) (fun _ k => ?_) ?_
          · refine XS.dup X6.here hx rfl (hb hby at_150) rfl rfl ?_
            refine XS.iconst X6.here hx rfl (hb hby at_151) ?_
            refine XS.iload X6.here hx rfl (hb hby at_152) rfl ?_
            exact k
          obtain ⟨cl_b4_7, Ar_b4_7, q_b4_7, S_b4_7, N_b4_7, H_b4_7, G_b4_7⟩ := V_b4_6
          obtain ⟨T7, h7, X7, e7, W7, st7⟩ := stC X6 hx hZ e6 Ar_b4_7 (j := (2 : Int32)) (inb_of S_b4_7 ⟨by decide, by decide⟩) (g := (mkF m 154 #[vi p0, vi p1, vi p2, vi p3, vi 3, vi x0, vi x1, vi x2, vi 0, .unset, .unset, .unset] [(.int x2), (.int 2), (.ref b4), (.ref b4)])) rfl rfl (hb hby at_154)
          have V_b4_7 : Arv Z h7 b4 k4 .char (3 : Int32) [(.int (nar .char x0)), (.int (nar .char x1)), (.int (nar .char x2))] (.int 0) := Arv.set Ar_b4_7 q_b4_7 S_b4_7 N_b4_7 H_b4_7 G_b4_7 (fits_nar_char _) W7 2 rfl (Nat.le_of_ble_eq_true rfl)
          refine OEndsH.st st7 ?_
          have S_b4' : Safe Z EL vm0 h7 b4 := Safe.wr W7 S_b4 A0.1 S_b4
          have A' : CHr Z EL s.vm s.heap vm0 h7 := A0.trans (CHr.wr W7 S_b4 A0.1)
          replace S_b4 := S_b4'
          replace A0 := A'
          replace hk0 := Nat.le_trans hk0 (Keep.of_wr W7).1
          replace O0 : Ext Z.heap h7 := ext_wr O0 W7 ge_b4
          replace N0 := Fr.snoc X7 N0 ge_b4
          refine OEndsH.st (S' := T7.setTop (mkF m 157 #[vi p0, vi p1, vi p2, vi p3, vi 3, vi x0, vi x1, vi x2, vi 0, vr b4, .unset, .unset] [])) (fun _ k => ?_) ?_
          · refine XS.astore X7.here hx rfl (hb hby at_155) rfl rfl (l' := #[vi p0, vi p1, vi p2, vi p3, vi 3, vi x0, vi x1, vi x2, vi 0, vr b4, .unset, .unset]) rfl ?_
            exact k
          obtain ⟨T8, h8, X8, e8, E8, A8, D8, U8, st8⟩ := newO X7 hx hZ hown (wq hw 6 rfl) (wq hw 7 rfl) (wq hw 8 rfl) e7 (g := (mkF m 157 #[vi p0, vi p1, vi p2, vi p3, vi 3, vi x0, vi x1, vi x2, vi 0, vr b4, .unset, .unset] [])) rfl (hb hby at_157) (by decide) (by decide)
          obtain ⟨b8, g8⟩ : ∃ z, z = h7.size := ⟨_, rfl⟩
          rw [← g8] at A8 D8 U8 st8
          refine OEndsH.st st8 ?_
          have ne_b4_b8 : b4 ≠ b8 := Nat.ne_of_lt (Nat.lt_of_lt_of_le V_b4_7.lt (Nat.le_of_eq g8.symm))
          have ge_b8 : Z.heap.size ≤ b8 := Nat.le_trans O0.1 (Nat.le_of_eq g8.symm)
          have S_b8 : Safe Z EL vm0 h7 b8 := Safe.new (Nat.le_of_eq g8.symm)
          replace V_b4_7 := V_b4_7.ext E8
          have S_b4' : Safe Z EL vm0 h8 b4 := Safe.ext E8 A0.1 S_b4
          have S_b8' : Safe Z EL vm0 h8 b8 := Safe.ext E8 A0.1 S_b8
          have A' : CHr Z EL s.vm s.heap vm0 h8 := A0.trans (CHr.ext E8 A0.1)
          replace S_b4 := S_b4'
          replace S_b8 := S_b8'
          replace A0 := A'
          replace hk0 := Nat.le_trans hk0 E8.1
          replace O0 : Ext Z.heap h8 := ext_trans O0 E8
          have F_coder_b8 : Fld Z h8 b8 "java/lang/String" "coder" "B" (.int 0) := D8 (Or.inr (wq hw 32 rfl)) (ty := .byte) (by decide)
          have F_value_b8 : Fld Z h8 b8 "java/lang/String" "value" "[B" .null := D8 (Or.inr (wq hw 34 rfl)) (ty := (.array .byte)) (by decide)
          refine OEndsH.st (S' := T8.setTop (mkF m 163 #[vi p0, vi p1, vi p2, vi p3, vi 3, vi x0, vi x1, vi x2, vi 0, vr b4, .unset, .unset] [(.ref b4), (.ref b8), (.ref b8)])) (fun _ k => ?_) ?_
          · refine XS.dup X8.here hx rfl (hb hby at_160) rfl rfl ?_
            refine XS.aload X8.here hx rfl (hb hby at_161) rfl rfl ?_
            exact k
          simp only [nar16 hx0, nar16 hx1, nar16 hx2] at V_b4_7
          obtain ⟨_, T9, h9, L9, X9, e9, hQ9, st9⟩ := specC X8 hx hZ rfl hown (wq hw 9 rfl) (wq hw 10 rfl) (wq hw 11 rfl) (by decide) (kc := 2) (ks := 9) (Con.sb (W := 1) (rm_strI1_3 l hD b8 b4 k4 x0 x1 x2 O0 A8 F_value_b8 F_coder_b8 ge_b8 V_b4_7 hx0 hx1 hx2) hZ (wq hw 11 rfl) (wq hw 8 rfl) (by decide) (by decide)) e8 (a := b8) (g := (mkF m 163 #[vi p0, vi p1, vi p2, vi p3, vi 3, vi x0, vi x1, vi x2, vi 0, vr b4, .unset, .unset] [(.ref b4), (.ref b8), (.ref b8)])) rfl (by rw [hml]; rfl) (argsL := [(.ref b4)]) (rest := [(.ref b8)]) (lenOf pd_18 rfl) rfl (by show 2 * 0 + _ ≤ _; exact Nat.le_of_eq rfl) (hb hby at_163) (by decide) (by decide)
          obtain ⟨rfl, Nq9, Kq9, Eq9, tq9, kq9, Fv9, hd9⟩ := hQ9
          refine OEndsH.st st9 ?_
          replace N0 := Fr.app N0 Nq9
          replace V_b4_7 := V_b4_7.keep Kq9 (ninS ne_b4_b8 nin0)
          replace A8 := A8.keep Kq9
          have S_b4' : Safe Z EL vm0 h9 b4 := Safe.keep Kq9 (sfS S_b8 sf0) A0.1 S_b4
          have S_b8' : Safe Z EL vm0 h9 b8 := Safe.keep Kq9 (sfS S_b8 sf0) A0.1 S_b8
          have A' : CHr Z EL s.vm s.heap vm0 h9 := A0.trans (CHr.keep Kq9 (sfS S_b8 sf0) A0.1)
          replace S_b4 := S_b4'
          replace S_b8 := S_b8'
          replace A0 := A'
          replace hk0 := Nat.le_trans hk0 Kq9.1
          replace O0 : Ext Z.heap h9 := ext_keep O0 Kq9 (allS ge_b8 all0)
          rcases hd9 with ⟨⟨hl0, hl1, hl2⟩, Fc, Vt⟩ | ⟨Fc, Vt⟩
          · refine OEndsH.st (S' := T9.setTop (mkF m 170 #[vi p0, vi p1, vi p2, vi p3, vi 3, vi x0, vi x1, vi x2, vi 0, vr b4, vr b8, .unset] [(.ref b8)])) (fun _ k => ?_) ?_
            · refine XS.astore X9.here hx rfl (hb hby at_166) rfl rfl (l' := #[vi p0, vi p1, vi p2, vi p3, vi 3, vi x0, vi x1, vi x2, vi 0, vr b4, vr b8, .unset]) rfl ?_
              refine XS.aload X9.here hx rfl (hb hby at_168) rfl rfl ?_
              exact k
            obtain ⟨b10, T10, h10, k110, t10, kb10, X10, e10, E10, hS10, hk10, hZ10, hown10, Es10, Fc10, Fv10, V10, -, -, Aq10, -, nes10, st10⟩ := ldcCH X9 hx hZ hown (wq hw 35 rfl) hsa e9 hS0 hk0 hEL (List.mem_of_getElem? (i := 1) rfl) A0.1 (vs := [(.int 110), (.int 97), (.int 109), (.int 101)]) (z := (4 : Int32)) ⟨by decide, by decide⟩ (by decide) rfl (g := (mkF m 170 #[vi p0, vi p1, vi p2, vi p3, vi 3, vi x0, vi x1, vi x2, vi 0, vr b4, vr b8, .unset] [(.ref b8)])) rfl (hb hby at_170) (n := 16) (by decide) (by decide) (by decide) (by decide)
            replace hZ10 : Z.Warmed39 T10.vm := hZ10
            replace hown10 : T10.vm.findClass "com/example/exact_gate/exactgate/NamesRequireOneLinePinLaw" = some m.cls := hown10
            replace S_b4 : Safe Z EL T10.vm h10 b4 := Aq10.safe V_b4_7.lt S_b4
            replace S_b8 : Safe Z EL T10.vm h10 b8 := Aq10.safe A8.lt S_b8
            replace A0 : CHr Z EL s.vm s.heap T10.vm h10 := A0.trans Aq10
            refine OEndsH.st st10 ?_
            have ne_b4_b10 : b4 ≠ b10 := (nes10 b4 S_b4).1
            have ne_b4_t10 : b4 ≠ t10 := (nes10 b4 S_b4).2
            have ne_b8_b10 : b8 ≠ b10 := (nes10 b8 S_b8).1
            have ne_b8_t10 : b8 ≠ t10 := (nes10 b8 S_b8).2
            replace V_b4_7 := V_b4_7.ext E10
            replace A8 := A8.ext E10
            replace Fv9 := Fv9.ext E10
            replace Fc := Fc.ext E10
            replace Vt := Vt.ext E10
            replace O0 : Ext Z.heap h10 := ext_trans O0 E10
            obtain ⟨_, T11, h11, L11, X11, e11, hQ11, st11⟩ := callC X10 hx hZ10 hown10 (wq hw 38 rfl) (wq hw 39 rfl) (wq hw 40 rfl) (wq hw 41 rfl) (by decide) (kc := 0) (ks := 0) (Con.sb (W := 0) (rm_req3_0 l hD b8 b10 tq9 kq9 x0 x1 x2 O0 A8 Fc Fv9 Vt hx0 hx1 hx2 hl0 hl1 hl2 hb0 hb1 hb2) hZ10 (wq hw 41 rfl) (wq hw 40 rfl) (by decide) (by decide)) e10 (g := (mkF m 172 #[vi p0, vi p1, vi p2, vi p3, vi 3, vi x0, vi x1, vi x2, vi 0, vr b4, vr b8, .unset] [(.ref b10), (.ref b8)])) rfl (by rw [hml]; rfl) (argsL := [(.ref b8), (.ref b10)]) (rest := []) (lenOf pd_19 rfl) rfl (by show 2 * 0 + _ ≤ _; exact Nat.le_of_eq rfl) (hb hby at_172) (by decide) (by decide)
            obtain ⟨rfl, Nq11, Hq11⟩ := hQ11
            refine OEndsH.st st11 ?_
            replace N0 := Fr.app N0 Nq11
            replace e11 := e11.trans Hq11
            refine OEndsH.st (S' := T11.setTop (mkF m 189 #[vi p0, vi p1, vi p2, vi p3, vi 3, vi x0, vi x1, vi x2, vi 0, vr b4, vr b8, vr b8] [(.int 1)])) (fun _ k => ?_) ?_
            · refine XS.astore X11.here hx rfl (hb hby at_175) rfl rfl (l' := #[vi p0, vi p1, vi p2, vi p3, vi 3, vi x0, vi x1, vi x2, vi 0, vr b4, vr b8, vr b8]) rfl ?_
              refine XS.aload X11.here hx rfl (hb hby at_177) rfl rfl ?_
              refine XS.aload X11.here hx rfl (hb hby at_179) rfl rfl ?_
              have hq181 : Jvm.Free.XT.acmp .ne ((.ref b8) : Value) ((.ref b8) : Value) = false := (Jvm.Free.XT.aa_ne_f rfl)
              refine Jvm.Free.XT.acmpNo X11.here hx rfl (hb hby at_181) rfl rfl rfl hq181 ?_
              show Steps p.tables e below (T11.setTop (mkF m 184 #[vi p0, vi p1, vi p2, vi p3, vi 3, vi x0, vi x1, vi x2, vi 0, vr b4, vr b8, vr b8] [])) _
              refine XS.iconst X11.here hx rfl (hb hby at_184) ?_
              refine XS.goto X11.here hx rfl (pc0 := 185) (pc' := 189) rfl (hb hby at_185) (by decide) (by decide) ?_
              exact k
            exact OEndsH.ret X11 hx hZ10 hEL e11 hS10 hk10 A0 hret hlk (by decide) (Or.inl ⟨rfl, by simp, _, rfl⟩) (hb hby at_189) (by decide) (by decide) ⟨rfl, N0⟩
          · refine OEndsH.st (S' := T9.setTop (mkF m 170 #[vi p0, vi p1, vi p2, vi p3, vi 3, vi x0, vi x1, vi x2, vi 0, vr b4, vr b8, .unset] [(.ref b8)])) (fun _ k => ?_) ?_
            · refine XS.astore X9.here hx rfl (hb hby at_166) rfl rfl (l' := #[vi p0, vi p1, vi p2, vi p3, vi 3, vi x0, vi x1, vi x2, vi 0, vr b4, vr b8, .unset]) rfl ?_
              refine XS.aload X9.here hx rfl (hb hby at_168) rfl rfl ?_
              exact k
            obtain ⟨b10, T10, h10, k110, t10, kb10, X10, e10, E10, hS10, hk10, hZ10, hown10, Es10, Fc10, Fv10, V10, -, -, Aq10, -, nes10, st10⟩ := ldcCH X9 hx hZ hown (wq hw 35 rfl) hsa e9 hS0 hk0 hEL (List.mem_of_getElem? (i := 1) rfl) A0.1 (vs := [(.int 110), (.int 97), (.int 109), (.int 101)]) (z := (4 : Int32)) ⟨by decide, by decide⟩ (by decide) rfl (g := (mkF m 170 #[vi p0, vi p1, vi p2, vi p3, vi 3, vi x0, vi x1, vi x2, vi 0, vr b4, vr b8, .unset] [(.ref b8)])) rfl (hb hby at_170) (n := 16) (by decide) (by decide) (by decide) (by decide)
            replace hZ10 : Z.Warmed39 T10.vm := hZ10
            replace hown10 : T10.vm.findClass "com/example/exact_gate/exactgate/NamesRequireOneLinePinLaw" = some m.cls := hown10
            replace S_b4 : Safe Z EL T10.vm h10 b4 := Aq10.safe V_b4_7.lt S_b4
            replace S_b8 : Safe Z EL T10.vm h10 b8 := Aq10.safe A8.lt S_b8
            replace A0 : CHr Z EL s.vm s.heap T10.vm h10 := A0.trans Aq10
            refine OEndsH.st st10 ?_
            have ne_b4_b10 : b4 ≠ b10 := (nes10 b4 S_b4).1
            have ne_b4_t10 : b4 ≠ t10 := (nes10 b4 S_b4).2
            have ne_b8_b10 : b8 ≠ b10 := (nes10 b8 S_b8).1
            have ne_b8_t10 : b8 ≠ t10 := (nes10 b8 S_b8).2
            replace V_b4_7 := V_b4_7.ext E10
            replace A8 := A8.ext E10
            replace Fv9 := Fv9.ext E10
            replace Fc := Fc.ext E10
            replace Vt := Vt.ext E10
            replace O0 : Ext Z.heap h10 := ext_trans O0 E10
            obtain ⟨_, T11, h11, L11, X11, e11, hQ11, st11⟩ := callC X10 hx hZ10 hown10 (wq hw 38 rfl) (wq hw 39 rfl) (wq hw 40 rfl) (wq hw 41 rfl) (by decide) (kc := 0) (ks := 0) (Con.sb (W := 0) (rm_req3_1 l hD b8 b10 tq9 kq9 x0 x1 x2 O0 A8 Fc Fv9 Vt hx0 hx1 hx2 hb0 hb1 hb2) hZ10 (wq hw 41 rfl) (wq hw 40 rfl) (by decide) (by decide)) e10 (g := (mkF m 172 #[vi p0, vi p1, vi p2, vi p3, vi 3, vi x0, vi x1, vi x2, vi 0, vr b4, vr b8, .unset] [(.ref b10), (.ref b8)])) rfl (by rw [hml]; rfl) (argsL := [(.ref b8), (.ref b10)]) (rest := []) (lenOf pd_19 rfl) rfl (by show 2 * 0 + _ ≤ _; exact Nat.le_of_eq rfl) (hb hby at_172) (by decide) (by decide)
            obtain ⟨rfl, Nq11, Hq11⟩ := hQ11
            refine OEndsH.st st11 ?_
            replace N0 := Fr.app N0 Nq11
            replace e11 := e11.trans Hq11
            refine OEndsH.st (S' := T11.setTop (mkF m 189 #[vi p0, vi p1, vi p2, vi p3, vi 3, vi x0, vi x1, vi x2, vi 0, vr b4, vr b8, vr b8] [(.int 1)])) (fun _ k => ?_) ?_
            · refine XS.astore X11.here hx rfl (hb hby at_175) rfl rfl (l' := #[vi p0, vi p1, vi p2, vi p3, vi 3, vi x0, vi x1, vi x2, vi 0, vr b4, vr b8, vr b8]) rfl ?_
              refine XS.aload X11.here hx rfl (hb hby at_177) rfl rfl ?_
              refine XS.aload X11.here hx rfl (hb hby at_179) rfl rfl ?_
              have hq181 : Jvm.Free.XT.acmp .ne ((.ref b8) : Value) ((.ref b8) : Value) = false := (Jvm.Free.XT.aa_ne_f rfl)
              refine Jvm.Free.XT.acmpNo X11.here hx rfl (hb hby at_181) rfl rfl rfl hq181 ?_
              show Steps p.tables e below (T11.setTop (mkF m 184 #[vi p0, vi p1, vi p2, vi p3, vi 3, vi x0, vi x1, vi x2, vi 0, vr b4, vr b8, vr b8] [])) _
              refine XS.iconst X11.here hx rfl (hb hby at_184) ?_
              refine XS.goto X11.here hx rfl (pc0 := 185) (pc' := 189) rfl (hb hby at_185) (by decide) (by decide) ?_
              exact k
            exact OEndsH.ret X11 hx hZ10 hEL e11 hS10 hk10 A0 hret hlk (by decide) (Or.inl ⟨rfl, by simp, _, rfl⟩) (hb hby at_189) (by decide) (by decide) ⟨rfl, N0⟩
theorem consts_in : ∀ q ∈ EL, q ∈ consts_1 := by decide
set_option maxRecDepth 65536 in
set_option maxHeartbeats 40000000 in
theorem comes_1 {Post : Tables → Env → Array Value → State → Outcome → State → Prop} (hpost : ∀ tb e args s v u, (limb_1_1.after args s (.returned v) u = true ∧ limb_1_2.after args s (.returned v) u = true ∧ True) → Jvm.D.FramedW s (.returned v) u (Jvm.fieldLocs frame_1_writes args s ++ Jvm.arrayLocs frame_1_arrays args s ++ Jvm.staticLocs frame_1_statics s) 24 2176 → Post tb e args s (.returned v) u) :
    ArmFor flags0 classFile x code maxLocals ret World_1 tables_1 room_1 Calls_1 rest_1 Pre_1 Post := by
  intro l hfl _ _ p e ha hc hk s m args below hf hA hF happ hP
  obtain ⟨hcalls, hrest, hpre⟩ := hP
  obtain ⟨-, -, -, hnamed, -, -, -, hat⟩ := (Spec.applies_iff hf).mp happ
  obtain ⟨hg, hn⟩ := and_e (Cond.before_iff.mp (show (Jvm.Cond.and given_1 narrow_1).before args s = true from hpre))
  obtain ⟨g0, g1⟩ := and_e hg
  obtain ⟨ga0, g2⟩ := and_e g1
  obtain ⟨ga1, g3⟩ := and_e g2
  obtain ⟨ga2, g4⟩ := and_e g3
  obtain ⟨w0, w1, w2, w3, rfl⟩ : ∃ w0 w1 w2 w3 : Value, args = #[w0, w1, w2, w3] := by
    have hs : args.size = 4 := by simpa [Cond.value, given_1] using g0
    obtain ⟨L⟩ := args
    match L, hs with
    | [w0, w1, w2, w3], _ => exact ⟨w0, w1, w2, w3, rfl⟩
  have hw := fun d (hd : d ∈ tables_1) => atoms_spec (ws := Jvm.Cond.code x code maxLocals ret :: tables_1) hat d (List.mem_cons_of_mem _ hd)
  have hfit : Fit s := fun {y c} hc i hi => by
    obtain ⟨ha, rfl⟩ := Array.getElem?_eq_some_iff.mp hc
    have q := List.all_eq_true.mp ((Array.all_eq_true_iff_forall_mem.mp hF) _ (Array.getElem_mem ha)) i (List.mem_range.mpr hi)
    simpa [Array.getElem?_eq_getElem hi] using q
  obtain ⟨hsets, hown0⟩ := atoms_of _ (rest_1_c_eq ▸ (show rest_1_c.before _ s = true from hrest))
  obtain ⟨i0, ei0⟩ := is_v ga0
  obtain rfl : w0 = (.int i0) := Option.some.inj ei0
  obtain ⟨i1, ei1⟩ := is_v ga1
  obtain rfl : w1 = (.int i1) := Option.some.inj ei1
  obtain ⟨i2, ei2⟩ := is_v ga2
  obtain rfl : w2 = (.int i2) := Option.some.inj ei2
  obtain ⟨i3, ei3⟩ := is_v g4
  obtain rfl : w3 = (.int i3) := Option.some.inj ei3
  obtain ⟨cz, ecz⟩ := is_v (Cond.before_iff.mp (hsets _ (List.mem_of_getElem? (i := 1) rfl)))
  have S_CS : Sta s s.heap "java/lang/String" "COMPACT_STRINGS" "Z" (.int cz) := Sta.start ecz (Or.inl (hsets _ (List.mem_of_getElem? (i := 0) rfl)))
  have hcz : ¬ (cz = (0 : Int32)) := gotF (Cond.eq_ints ecz (Term.int_eval (0))) (not_v (Cond.before_iff.mp (hsets _ (List.mem_of_getElem? (i := 2) rfl))))
  obtain ⟨sf, S_SF, hsf⟩ : ∃ w : Value, Sta s s.heap "jdk/internal/util/Preconditions" "SIOOBE_FORMATTER" "Ljava/util/function/BiFunction;" w ∧ w.isRef = true := by
    obtain ⟨w, ew, hw'⟩ := isR_v (Cond.before_iff.mp (hsets _ (List.mem_of_getElem? (i := 8) rfl)))
    exact ⟨w, Sta.start ew (Or.inl (hsets _ (List.mem_of_getElem? (i := 7) rfl))), hw'⟩
  have S_AD : Sta s s.heap "java/lang/StringUTF16" "$assertionsDisabled" "Z" (.int 1) := Sta.start (Cond.eq_int (hsets _ (List.mem_of_getElem? (i := 12) rfl)) rfl) (Or.inl (hsets _ (List.mem_of_getElem? (i := 11) rfl)))
  have S_HI : Sta s s.heap "java/lang/StringUTF16" "HI_BYTE_SHIFT" "I" (.int 0) := Sta.start (Cond.eq_int (hsets _ (List.mem_of_getElem? (i := 15) rfl)) rfl) (Or.inl (hsets _ (List.mem_of_getElem? (i := 14) rfl)))
  have S_LO : Sta s s.heap "java/lang/StringUTF16" "LO_BYTE_SHIFT" "I" (.int 8) := Sta.start (Cond.eq_int (hsets _ (List.mem_of_getElem? (i := 18) rfl)) rfl) (Or.inl (hsets _ (List.mem_of_getElem? (i := 17) rfl)))
  have hD : Wd s _ := ⟨hw, ⟨cz, S_CS, hcz⟩, ⟨sf, S_SF, hsf⟩, S_AD, S_HI, S_LO⟩
  have hC : CHv s EL s.vm s.heap := CHv.start (el_of hw) (fun q hq => hcalls.1 q (consts_in q hq)) (hsets _ (List.mem_of_getElem? (i := 2) rfl)) (wq hw 24 rfl) (wq hw 7 rfl)
  obtain ⟨n, o, h1, h2, h3, _, L, rfl, ⟨rfl, N⟩, -, hq⟩ := rm_law l hD i0 i1 i2 i3 (ext_refl s.heap) p e ha hc hk s m _ below hf ((Spec.applies_iff_loose hf).mp happ).1 ⟨rfl, State.Warmed39.refl s, rfl, hC, fun x hx => nomatch hx⟩ trivial
  refine ⟨n, _, h1, h2, h3, hpost _ _ _ _ _ _ ⟨Cond.after_iff.mpr rfl, Cond.after_iff.mpr (eq_i res_at (Term.int_eval (1)) rfl), trivial⟩ ⟨hq.1, hq.2.1, hq.2.2.1, (hq.2.2.2.sift fun y hy => Or.inr (N y hy)).mono (by decide) (by decide)⟩⟩
theorem main_1_1 : Claimed_1_1 := comes_1 fun _ _ _ _ _ _ h hF => ⟨h.1, hF⟩
theorem main_1_2 : Claimed_1_2 := comes_1 fun _ _ _ _ _ _ h hF => ⟨h.2.1, hF⟩
end Jvm.Pilot.@@N@@
namespace Jvm.Pilot.@@N@@
open Jvm Jvm.ClassFile Sem Op Lib Jvm.Free Jvm.Stand Jvm.Pilot.@@N@@.Jvm.D
/-! MADE BY PROGRAM (witnessworld.py) out of the Statement's table words and the real class files: 21 classes; the members and pool entries that the words name. The judged class is class 1, her method 2. -/
namespace start1
open Jvm.ClassFile
def u (s : String) : CpInfo := .utf8 (stringToUtf16 s)
/-- a pool by its gaps: so many unusable entries, then the entry; so many at the end -/
def gap : Nat → List CpInfo → List CpInfo
  | 0, r => r
  | n + 1, r => .unusable :: gap n r
def poolList (es : List (Nat × CpInfo)) (last : Nat) : List CpInfo := es.foldr (fun e r => gap e.1 (e.2 :: r)) (gap last [])
def pool (es : List (Nat × CpInfo)) (last : Nat) : Array CpInfo := ⟨poolList es last⟩
def fileOf (pool : Array CpInfo) (this : Nat) (attrs : Array Attribute := #[]) (ms : Array MethodInfo := #[]) (fl : Nat := 33) (sup : Nat := 0) (ifs : Array Nat := #[]) (fds : Array FieldInfo := #[]) : ClassFile where
  minorVersion := 0
  majorVersion := 65
  constantPool := pool
  accessFlags := fl
  thisClass := this
  superClass := sup
  interfaces := ifs
  fields := fds
  methods := ms
  attributes := attrs
def plain (name : String) (sup : Option ClassId) : Class where
  name := name
  kind := .ordinary
  loader := none
  accessFlags := 33
  super := sup
  interfaces := #[]
  cf := none
  fields := #[]
  methods := #[]
  instanceTypes := #[]
  staticTypes := #[]
  resolved := #[]
  callSites := []
  init := .initialized
  statics := none
  mirror := none

def pool0 : Array CpInfo := pool [(5, u "<init>"), (0, u "()V"), (1, .class_ 10), (1, u "java/lang/Object")] 113

def k0c0 : Code := { maxStack := 0, maxLocals := 1, code := object_method_1_code, exceptionTable := #[], attributes := #[] }
def k0m0 : Method := { name := "<init>", desc := "()V", sig := { parameters := [], returnType := none }, accessFlags := 1, code := some k0c0 }
/-- java/lang/Object -/
def k0 : Class := { plain "java/lang/Object" none with
  accessFlags := 33
  interfaces := #[]
  cf := some (fileOf pool0 8 #[] #[{ accessFlags := 1, nameIndex := 5, descriptorIndex := 6, attributes := #[] }] 33 0 #[] #[])
  fields := #[]
  methods := #[k0m0]
  instanceTypes := #[]
  staticTypes := #[]
  resolved := Array.replicate 124 none
  statics := none }

def pool1 : Array CpInfo := pool [(2, .class_ 4), (1, u "java/lang/Object"), (0, u "<init>"), (0, u "()V"), (0, .integer 2147483647), (0, .methodref 9 10), (0, .class_ 11), (0, .nameAndType 12 13), (0, u "com/example/exact_gate/exactgate/NamesRequireOneLinePinLaw"), (0, u "isBreak"), (0, u "(C)Z"), (0, .class_ 15), (0, u "java/lang/String"), (0, .methodref 14 17), (0, .nameAndType 5 18), (0, u "([C)V"), (0, .string 20), (0, u "name"), (0, .methodref 22 23), (0, .class_ 24), (0, .nameAndType 25 26), (0, u "com/example/exact_gate/exactgate/Names"), (0, u "requireOneLine"), (0, u "(Ljava/lang/String;Ljava/lang/String;)Ljava/lang/String;"), (3, u "law"), (0, u "(IIII)Z")] 4

def k1m0 : Method := { name := "<init>", desc := "()V", sig := { parameters := [], returnType := none }, accessFlags := 2, code := none }
def k1c1 : Code := { maxStack := 2, maxLocals := 1, code := method_2_code, exceptionTable := #[], attributes := #[] }
def k1m1 : Method := { name := "isBreak", desc := "(C)Z", sig := { parameters := [.char], returnType := some .boolean }, accessFlags := 10, code := some k1c1 }
def k1c2 : Code := { maxStack := 4, maxLocals := 12, code := code, exceptionTable := #[], attributes := #[] }
def k1m2 : Method := { name := "law", desc := "(IIII)Z", sig := { parameters := [.int, .int, .int, .int], returnType := some .boolean }, accessFlags := 9, code := some k1c2 }
/-- com/example/exact_gate/exactgate/NamesRequireOneLinePinLaw -/
def k1 : Class := { plain "com/example/exact_gate/exactgate/NamesRequireOneLinePinLaw" (some 0) with
  accessFlags := 49
  interfaces := #[]
  cf := some (fileOf pool1 9 #[] #[{ accessFlags := 2, nameIndex := 5, descriptorIndex := 6, attributes := #[] }, { accessFlags := 10, nameIndex := 12, descriptorIndex := 13, attributes := #[] }, { accessFlags := 9, nameIndex := 30, descriptorIndex := 31, attributes := #[] }] 49 2 #[] #[])
  fields := #[]
  methods := #[k1m0, k1m1, k1m2]
  instanceTypes := #[]
  staticTypes := #[]
  resolved := Array.replicate 36 none
  statics := none }

def pool2 : Array CpInfo := pool [(1, .class_ 2), (0, u "java/io/Serializable"), (0, .class_ 4), (0, u "java/lang/Object")] 2

/-- java/io/Serializable -/
def k2 : Class := { plain "java/io/Serializable" (some 0) with
  accessFlags := 1537
  interfaces := #[]
  cf := some (fileOf pool2 1 #[] #[] 1537 3 #[] #[])
  fields := #[]
  methods := #[]
  instanceTypes := #[]
  staticTypes := #[]
  resolved := Array.replicate 7 none
  statics := none }

def pool3 : Array CpInfo := pool [(1, .class_ 2), (0, u "java/lang/Comparable"), (0, .class_ 4), (0, u "java/lang/Object")] 7

/-- java/lang/Comparable -/
def k3 : Class := { plain "java/lang/Comparable" (some 0) with
  accessFlags := 1537
  interfaces := #[]
  cf := some (fileOf pool3 1 #[] #[] 1537 3 #[] #[])
  fields := #[]
  methods := #[]
  instanceTypes := #[]
  staticTypes := #[]
  resolved := Array.replicate 12 none
  statics := none }

def pool4 : Array CpInfo := pool [(2, .class_ 4), (1, u "java/lang/CharSequence"), (42, .class_ 48), (0, u "java/lang/CharSequence$1CodePointIterator"), (10, .class_ 60), (0, u "java/lang/CharSequence$1CharIterator"), (5, .class_ 67), (0, u "java/lang/Object")] 63

/-- java/lang/CharSequence -/
def k4 : Class := { plain "java/lang/CharSequence" (some 0) with
  accessFlags := 1537
  interfaces := #[]
  cf := some (fileOf pool4 2 #[.nestMembers #[47, 59]] #[] 1537 66 #[] #[])
  fields := #[]
  methods := #[]
  instanceTypes := #[]
  staticTypes := #[]
  resolved := Array.replicate 131 none
  statics := none }

def pool5 : Array CpInfo := pool [(1, .class_ 2), (0, u "java/lang/constant/Constable"), (0, .class_ 4), (0, u "java/lang/Object")] 6

/-- java/lang/constant/Constable -/
def k5 : Class := { plain "java/lang/constant/Constable" (some 0) with
  accessFlags := 1537
  interfaces := #[]
  cf := some (fileOf pool5 1 #[] #[] 1537 3 #[] #[])
  fields := #[]
  methods := #[]
  instanceTypes := #[]
  staticTypes := #[]
  resolved := Array.replicate 11 none
  statics := none }

def pool6 : Array CpInfo := pool [(1, .class_ 2), (0, u "java/lang/constant/ConstantDesc"), (0, .class_ 4), (0, u "java/lang/Object")] 32

/-- java/lang/constant/ConstantDesc -/
def k6 : Class := { plain "java/lang/constant/ConstantDesc" (some 0) with
  accessFlags := 1537
  interfaces := #[]
  cf := some (fileOf pool6 1 #[] #[] 1537 3 #[] #[])
  fields := #[]
  methods := #[]
  instanceTypes := #[]
  staticTypes := #[]
  resolved := Array.replicate 37 none
  statics := none }

def pool7 : Array CpInfo := pool [(1, .methodref 2 3), (0, .class_ 4), (0, .nameAndType 5 6), (0, u "java/lang/Object"), (0, u "<init>"), (0, u "()V"), (0, .string 8), (0, u ""), (0, .fieldref 10 11), (0, .class_ 12), (0, .nameAndType 13 14), (0, u "java/lang/String"), (0, u "value"), (0, u "[B"), (0, .fieldref 10 16), (0, .nameAndType 17 18), (0, u "coder"), (0, u "B"), (2, u "hash"), (0, u "I"), (2, u "hashIsZero"), (0, u "Z"), (0, .methodref 10 28), (0, .nameAndType 5 29), (0, u "([CIILjava/lang/Void;)V"), (8, .fieldref 10 39), (0, .nameAndType 40 26), (0, u "COMPACT_STRINGS"), (1, .class_ 44), (1, u "java/lang/StringUTF16"), (0, u "compress"), (1, .methodref 42 48), (0, .nameAndType 49 50), (0, u "coderFromArrayLen"), (0, u "([BI)B"), (56, .class_ 109), (1, u "java/lang/StringLatin1"), (32, u "()Z"), (34, .methodref 42 178), (0, .nameAndType 45 179), (0, u "([CII)[B"), (154, u "()I"), (0, .methodref 10 336), (0, .nameAndType 17 337), (0, u "()B"), (154, .methodref 10 493), (0, .nameAndType 494 142), (0, u "isLatin1"), (10, .methodref 10 506), (0, .nameAndType 507 334), (0, u "length"), (5, u "checkFromToIndex"), (9, u "checkBoundsBeginEnd"), (0, u "(III)V"), (50, .class_ 576), (0, u "java/lang/CharSequence"), (22, u "CASE_INSENSITIVE_ORDER"), (0, u "Ljava/util/Comparator;"), (32, .methodref 10 634), (0, .nameAndType 635 636), (0, u "indexOf"), (0, u "(II)I"), (0, .methodref 107 638), (0, .nameAndType 635 639), (0, u "([BIII)I"), (0, .methodref 42 638), (124, u "(I)I"), (244, u "([C)V"), (42, .fieldref 1054 1055), (0, .class_ 1056), (0, .nameAndType 1057 1058), (0, u "jdk/internal/util/Preconditions"), (0, u "SIOOBE_FORMATTER"), (0, u "Ljava/util/function/BiFunction;"), (3, .methodref 1054 1063), (0, .nameAndType 513 1064), (0, u "(IIILjava/util/function/BiFunction;)I"), (36, u "serialPersistentFields"), (0, u "[Ljava/io/ObjectStreamField;"), (0, .class_ 1104), (0, u "java/lang/String$CaseInsensitiveComparator"), (1, .class_ 1107), (0, u "java/io/Serializable"), (0, .class_ 1109), (0, u "java/lang/Comparable"), (0, .class_ 1111), (0, u "java/lang/constant/Constable"), (0, .class_ 1113), (0, u "java/lang/constant/ConstantDesc"), (2, u "serialVersionUID"), (0, u "J"), (3, u "REPL"), (0, u "C"), (2, u "LATIN1"), (1, u "UTF16")] 323

def k7m0 : Method := { name := "<init>", desc := "()V", sig := { parameters := [], returnType := none }, accessFlags := 1, code := none }
def k7c1 : Code := { maxStack := 5, maxLocals := 2, code := jdk_42_method_3_code, exceptionTable := #[], attributes := #[] }
def k7m1 : Method := { name := "<init>", desc := "([C)V", sig := { parameters := [(.array .char)], returnType := none }, accessFlags := 1, code := some k7c1 }
def k7c2 : Code := { maxStack := 2, maxLocals := 1, code := jdk_42_method_54_code, exceptionTable := #[], attributes := #[] }
def k7m2 : Method := { name := "length", desc := "()I", sig := { parameters := [], returnType := some .int }, accessFlags := 1, code := some k7c2 }
def k7c3 : Code := { maxStack := 3, maxLocals := 2, code := jdk_42_method_79_code, exceptionTable := #[], attributes := #[] }
def k7m3 : Method := { name := "indexOf", desc := "(I)I", sig := { parameters := [.int], returnType := some .int }, accessFlags := 1, code := some k7c3 }
def k7c4 : Code := { maxStack := 4, maxLocals := 3, code := jdk_42_method_80_code, exceptionTable := #[], attributes := #[] }
def k7m4 : Method := { name := "indexOf", desc := "(II)I", sig := { parameters := [.int, .int], returnType := some .int }, accessFlags := 1, code := some k7c4 }
def k7c5 : Code := { maxStack := 4, maxLocals := 6, code := jdk_42_method_149_code, exceptionTable := #[], attributes := #[] }
def k7m5 : Method := { name := "<init>", desc := "([CIILjava/lang/Void;)V", sig := { parameters := [(.array .char), .int, .int, (.object "java/lang/Void")], returnType := none }, accessFlags := 2, code := some k7c5 }
def k7c6 : Code := { maxStack := 1, maxLocals := 1, code := jdk_42_method_152_code, exceptionTable := #[], attributes := #[] }
def k7m6 : Method := { name := "coder", desc := "()B", sig := { parameters := [], returnType := some .byte }, accessFlags := 0, code := some k7c6 }
def k7c7 : Code := { maxStack := 1, maxLocals := 1, code := jdk_42_method_154_code, exceptionTable := #[], attributes := #[] }
def k7m7 : Method := { name := "isLatin1", desc := "()Z", sig := { parameters := [], returnType := some .boolean }, accessFlags := 0, code := some k7c7 }
def k7c8 : Code := { maxStack := 4, maxLocals := 3, code := jdk_42_method_158_code, exceptionTable := #[], attributes := #[] }
def k7m8 : Method := { name := "checkBoundsBeginEnd", desc := "(III)V", sig := { parameters := [.int, .int, .int], returnType := none }, accessFlags := 8, code := some k7c8 }
/-- java/lang/String -/
def k7 : Class := { plain "java/lang/String" (some 0) with
  accessFlags := 49
  interfaces := #[2, 3, 4, 5, 6]
  cf := some (fileOf pool7 10 #[.nestMembers #[1103]] #[{ accessFlags := 1, nameIndex := 5, descriptorIndex := 6, attributes := #[] }, { accessFlags := 1, nameIndex := 5, descriptorIndex := 1010, attributes := #[] }, { accessFlags := 1, nameIndex := 507, descriptorIndex := 334, attributes := #[] }, { accessFlags := 1, nameIndex := 635, descriptorIndex := 765, attributes := #[] }, { accessFlags := 1, nameIndex := 635, descriptorIndex := 636, attributes := #[] }, { accessFlags := 2, nameIndex := 5, descriptorIndex := 29, attributes := #[] }, { accessFlags := 0, nameIndex := 17, descriptorIndex := 337, attributes := #[] }, { accessFlags := 0, nameIndex := 494, descriptorIndex := 142, attributes := #[] }, { accessFlags := 8, nameIndex := 523, descriptorIndex := 524, attributes := #[] }] 49 2 #[1106, 1108, 575, 1110, 1112] #[{ accessFlags := 18, nameIndex := 13, descriptorIndex := 14, attributes := #[] }, { accessFlags := 18, nameIndex := 17, descriptorIndex := 18, attributes := #[] }, { accessFlags := 2, nameIndex := 21, descriptorIndex := 22, attributes := #[] }, { accessFlags := 2, nameIndex := 25, descriptorIndex := 26, attributes := #[] }, { accessFlags := 26, nameIndex := 1116, descriptorIndex := 1117, attributes := #[] }, { accessFlags := 24, nameIndex := 40, descriptorIndex := 26, attributes := #[] }, { accessFlags := 26, nameIndex := 1101, descriptorIndex := 1102, attributes := #[] }, { accessFlags := 26, nameIndex := 1121, descriptorIndex := 1122, attributes := #[] }, { accessFlags := 25, nameIndex := 599, descriptorIndex := 600, attributes := #[] }, { accessFlags := 24, nameIndex := 1125, descriptorIndex := 18, attributes := #[] }, { accessFlags := 24, nameIndex := 1127, descriptorIndex := 18, attributes := #[] }])
  fields := #[{ name := "value", type := (.array .byte), accessFlags := 18, slot := 0, constantValue := 0 }, { name := "coder", type := .byte, accessFlags := 18, slot := 1, constantValue := 0 }, { name := "hash", type := .int, accessFlags := 2, slot := 2, constantValue := 0 }, { name := "hashIsZero", type := .boolean, accessFlags := 2, slot := 3, constantValue := 0 }, { name := "serialVersionUID", type := .long, accessFlags := 26, slot := 0, constantValue := 0 }, { name := "COMPACT_STRINGS", type := .boolean, accessFlags := 24, slot := 1, constantValue := 0 }, { name := "serialPersistentFields", type := (.array (.object "java/io/ObjectStreamField")), accessFlags := 26, slot := 2, constantValue := 0 }, { name := "REPL", type := .char, accessFlags := 26, slot := 3, constantValue := 0 }, { name := "CASE_INSENSITIVE_ORDER", type := (.object "java/util/Comparator"), accessFlags := 25, slot := 4, constantValue := 0 }, { name := "LATIN1", type := .byte, accessFlags := 24, slot := 5, constantValue := 0 }, { name := "UTF16", type := .byte, accessFlags := 24, slot := 6, constantValue := 0 }]
  methods := #[k7m0, k7m1, k7m2, k7m3, k7m4, k7m5, k7m6, k7m7, k7m8]
  instanceTypes := #[(.array .byte), .byte, .int, .boolean]
  staticTypes := #[.long, .boolean, (.array (.object "java/io/ObjectStreamField")), .char, (.object "java/util/Comparator"), .byte, .byte]
  resolved := Array.replicate 1451 none
  statics := some 0 }

def pool8 : Array CpInfo := pool [(3, .class_ 4), (0, u "java/lang/String"), (1, .class_ 8), (1, u "java/lang/Object"), (0, u "<init>"), (0, u "()V"), (0, .methodref 12 13), (0, .class_ 14), (0, .nameAndType 15 16), (0, u "java/lang/StringUTF16"), (0, u "newBytesLength"), (0, u "(I)I"), (3, .integer 1073741823), (23, .fieldref 12 45), (0, .nameAndType 46 47), (0, u "$assertionsDisabled"), (0, u "Z"), (0, .methodref 12 49), (0, .nameAndType 50 51), (0, u "length"), (0, u "([B)I"), (7, .fieldref 12 60), (0, .nameAndType 61 62), (0, u "HI_BYTE_SHIFT"), (0, u "I"), (0, .fieldref 12 64), (0, .nameAndType 65 62), (0, u "LO_BYTE_SHIFT"), (5, .methodref 12 72), (0, .nameAndType 73 74), (0, u "getChar"), (0, u "([BI)C"), (21, .methodref 12 97), (0, .nameAndType 98 99), (0, u "checkBoundsBeginEnd"), (0, u "(II[B)V"), (7, .methodref 12 108), (0, .nameAndType 109 110), (0, u "newBytesFor"), (0, u "(I)[B"), (0, .methodref 12 112), (0, .nameAndType 113 114), (0, u "putChar"), (0, u "([BII)V"), (0, .methodref 12 116), (0, .nameAndType 117 118), (0, u "compress"), (0, u "([CI[BII)I"), (0, .methodref 12 120), (0, .nameAndType 121 122), (0, u "toBytes"), (0, u "([CII)[B"), (60, .methodref 184 185), (0, .class_ 186), (0, .nameAndType 187 188), (0, u "java/lang/Math"), (0, u "min"), (0, u "(II)I"), (35, .methodref 184 225), (0, .nameAndType 226 188), (0, u "max"), (0, .integer 65536), (0, .methodref 12 229), (0, .nameAndType 230 231), (0, u "indexOfChar"), (0, u "([BIII)I"), (9, .methodref 3 242), (0, .nameAndType 98 243), (0, u "(III)V"), (0, .methodref 12 245), (0, .nameAndType 246 231), (0, u "indexOfCharUnsafe"), (14, u "coderFromArrayLen"), (0, u "([BI)B"), (5, u "indexOf"), (100, .class_ 371), (1, u "java/lang/StringUTF16$LinesSpliterator"), (58, u "MAX_LENGTH"), (196, .class_ 628), (0, u "java/lang/StringUTF16$CodePointsSpliterator"), (0, .class_ 630), (0, u "java/lang/StringUTF16$CharsSpliterator")] 4

def k8m0 : Method := { name := "<init>", desc := "()V", sig := { parameters := [], returnType := none }, accessFlags := 0, code := none }
def k8c1 : Code := { maxStack := 1, maxLocals := 1, code := jdk_52_method_2_code, exceptionTable := #[], attributes := #[] }
def k8m1 : Method := { name := "newBytesFor", desc := "(I)[B", sig := { parameters := [.int], returnType := some (.array .byte) }, accessFlags := 9, code := some k8c1 }
def k8c2 : Code := { maxStack := 4, maxLocals := 1, code := jdk_52_method_3_code, exceptionTable := #[], attributes := #[] }
def k8m2 : Method := { name := "newBytesLength", desc := "(I)I", sig := { parameters := [.int], returnType := some .int }, accessFlags := 9, code := some k8c2 }
def k8c3 : Code := { maxStack := 4, maxLocals := 3, code := jdk_52_method_4_code, exceptionTable := #[], attributes := #[] }
def k8m3 : Method := { name := "putChar", desc := "([BII)V", sig := { parameters := [(.array .byte), .int, .int], returnType := none }, accessFlags := 8, code := some k8c3 }
def k8c4 : Code := { maxStack := 3, maxLocals := 2, code := jdk_52_method_5_code, exceptionTable := #[], attributes := #[] }
def k8m4 : Method := { name := "getChar", desc := "([BI)C", sig := { parameters := [(.array .byte), .int], returnType := some .char }, accessFlags := 8, code := some k8c4 }
def k8c5 : Code := { maxStack := 2, maxLocals := 1, code := jdk_52_method_6_code, exceptionTable := #[], attributes := #[] }
def k8m5 : Method := { name := "length", desc := "([B)I", sig := { parameters := [(.array .byte)], returnType := some .int }, accessFlags := 9, code := some k8c5 }
def k8c6 : Code := { maxStack := 4, maxLocals := 5, code := jdk_52_method_14_code, exceptionTable := #[], attributes := #[] }
def k8m6 : Method := { name := "toBytes", desc := "([CII)[B", sig := { parameters := [(.array .char), .int, .int], returnType := some (.array .byte) }, accessFlags := 9, code := some k8c6 }
def k8c7 : Code := { maxStack := 2, maxLocals := 2, code := jdk_52_method_15_code, exceptionTable := #[], attributes := #[] }
def k8m7 : Method := { name := "coderFromArrayLen", desc := "([BI)B", sig := { parameters := [(.array .byte), .int], returnType := some .byte }, accessFlags := 8, code := some k8c7 }
def k8c8 : Code := { maxStack := 5, maxLocals := 6, code := jdk_52_method_16_code, exceptionTable := #[], attributes := #[] }
def k8m8 : Method := { name := "compress", desc := "([CII)[B", sig := { parameters := [(.array .char), .int, .int], returnType := some (.array .byte) }, accessFlags := 9, code := some k8c8 }
def k8c9 : Code := { maxStack := 3, maxLocals := 7, code := jdk_52_method_21_code, exceptionTable := #[], attributes := #[] }
def k8m9 : Method := { name := "compress", desc := "([CI[BII)I", sig := { parameters := [(.array .char), .int, (.array .byte), .int, .int], returnType := some .int }, accessFlags := 9, code := some k8c9 }
def k8c10 : Code := { maxStack := 4, maxLocals := 4, code := jdk_52_method_40_code, exceptionTable := #[], attributes := #[] }
def k8m10 : Method := { name := "indexOf", desc := "([BIII)I", sig := { parameters := [(.array .byte), .int, .int, .int], returnType := some .int }, accessFlags := 9, code := some k8c10 }
def k8c11 : Code := { maxStack := 4, maxLocals := 4, code := jdk_52_method_47_code, exceptionTable := #[], attributes := #[] }
def k8m11 : Method := { name := "indexOfChar", desc := "([BIII)I", sig := { parameters := [(.array .byte), .int, .int, .int], returnType := some .int }, accessFlags := 10, code := some k8c11 }
def k8c12 : Code := { maxStack := 2, maxLocals := 5, code := jdk_52_method_48_code, exceptionTable := #[], attributes := #[] }
def k8m12 : Method := { name := "indexOfCharUnsafe", desc := "([BIII)I", sig := { parameters := [(.array .byte), .int, .int, .int], returnType := some .int }, accessFlags := 10, code := some k8c12 }
def k8c13 : Code := { maxStack := 3, maxLocals := 3, code := jdk_52_method_93_code, exceptionTable := #[], attributes := #[] }
def k8m13 : Method := { name := "checkBoundsBeginEnd", desc := "(II[B)V", sig := { parameters := [.int, .int, (.array .byte)], returnType := none }, accessFlags := 9, code := some k8c13 }
/-- java/lang/StringUTF16 -/
def k8 : Class := { plain "java/lang/StringUTF16" (some 0) with
  accessFlags := 48
  interfaces := #[]
  cf := some (fileOf pool8 12 #[.nestMembers #[627, 629, 369]] #[{ accessFlags := 0, nameIndex := 9, descriptorIndex := 10, attributes := #[] }, { accessFlags := 9, nameIndex := 109, descriptorIndex := 110, attributes := #[] }, { accessFlags := 9, nameIndex := 15, descriptorIndex := 16, attributes := #[] }, { accessFlags := 8, nameIndex := 113, descriptorIndex := 114, attributes := #[] }, { accessFlags := 8, nameIndex := 73, descriptorIndex := 74, attributes := #[] }, { accessFlags := 9, nameIndex := 50, descriptorIndex := 51, attributes := #[] }, { accessFlags := 9, nameIndex := 121, descriptorIndex := 122, attributes := #[] }, { accessFlags := 8, nameIndex := 261, descriptorIndex := 262, attributes := #[] }, { accessFlags := 9, nameIndex := 117, descriptorIndex := 122, attributes := #[] }, { accessFlags := 9, nameIndex := 117, descriptorIndex := 118, attributes := #[] }, { accessFlags := 9, nameIndex := 268, descriptorIndex := 231, attributes := #[] }, { accessFlags := 10, nameIndex := 230, descriptorIndex := 231, attributes := #[] }, { accessFlags := 10, nameIndex := 246, descriptorIndex := 231, attributes := #[] }, { accessFlags := 9, nameIndex := 98, descriptorIndex := 99, attributes := #[] }] 48 6 #[] #[{ accessFlags := 26, nameIndex := 61, descriptorIndex := 62, attributes := #[] }, { accessFlags := 26, nameIndex := 65, descriptorIndex := 62, attributes := #[] }, { accessFlags := 24, nameIndex := 430, descriptorIndex := 62, attributes := #[] }, { accessFlags := 4120, nameIndex := 46, descriptorIndex := 47, attributes := #[] }])
  fields := #[{ name := "HI_BYTE_SHIFT", type := .int, accessFlags := 26, slot := 0, constantValue := 0 }, { name := "LO_BYTE_SHIFT", type := .int, accessFlags := 26, slot := 1, constantValue := 0 }, { name := "MAX_LENGTH", type := .int, accessFlags := 24, slot := 2, constantValue := 0 }, { name := "$assertionsDisabled", type := .boolean, accessFlags := 4120, slot := 3, constantValue := 0 }]
  methods := #[k8m0, k8m1, k8m2, k8m3, k8m4, k8m5, k8m6, k8m7, k8m8, k8m9, k8m10, k8m11, k8m12, k8m13]
  instanceTypes := #[]
  staticTypes := #[.int, .int, .int, .boolean]
  resolved := Array.replicate 635 none
  statics := some 1 }

def pool9 : Array CpInfo := pool [(2, .class_ 4), (1, u "java/lang/Object"), (0, u "<init>"), (0, u "()V"), (1, .class_ 10), (1, u "java/lang/String"), (13, .class_ 26), (1, u "com/example/exact_gate/exactgate/Names"), (47, u "(Ljava/lang/String;Ljava/lang/String;)Ljava/lang/String;"), (5, .methodref 8 81), (0, .nameAndType 82 83), (0, u "indexOf"), (0, u "(I)I"), (9, u "BYTE_ORDER"), (0, u "Ljava/util/Comparator;"), (8, u "requireOneLine")] 47

def k9m0 : Method := { name := "<init>", desc := "()V", sig := { parameters := [], returnType := none }, accessFlags := 2, code := none }
def k9c1 : Code := { maxStack := 3, maxLocals := 2, code := prog_2_method_6_code, exceptionTable := #[], attributes := #[] }
def k9m1 : Method := { name := "requireOneLine", desc := "(Ljava/lang/String;Ljava/lang/String;)Ljava/lang/String;", sig := { parameters := [(.object "java/lang/String"), (.object "java/lang/String")], returnType := some (.object "java/lang/String") }, accessFlags := 8, code := some k9c1 }
/-- com/example/exact_gate/exactgate/Names -/
def k9 : Class := { plain "com/example/exact_gate/exactgate/Names" (some 0) with
  accessFlags := 48
  interfaces := #[]
  cf := some (fileOf pool9 24 #[] #[{ accessFlags := 2, nameIndex := 5, descriptorIndex := 6, attributes := #[] }, { accessFlags := 8, nameIndex := 103, descriptorIndex := 74, attributes := #[] }] 48 2 #[] #[{ accessFlags := 24, nameIndex := 93, descriptorIndex := 94, attributes := #[] }])
  fields := #[{ name := "BYTE_ORDER", type := (.object "java/util/Comparator"), accessFlags := 24, slot := 0, constantValue := 0 }]
  methods := #[k9m0, k9m1]
  instanceTypes := #[]
  staticTypes := #[(.object "java/util/Comparator")]
  resolved := Array.replicate 151 none
  statics := none }

def pool10 : Array CpInfo := pool [(4, .class_ 6), (1, u "java/lang/Object"), (0, u "<init>"), (0, u "()V"), (5, .class_ 16), (1, u "java/lang/StringLatin1"), (21, .methodref 39 40), (0, .class_ 41), (0, .nameAndType 42 43), (0, u "java/lang/Math"), (0, u "min"), (0, u "(II)I"), (44, .methodref 14 89), (0, .nameAndType 90 91), (0, u "canEncode"), (0, u "(I)Z"), (0, .methodref 39 93), (0, .nameAndType 94 43), (0, u "max"), (0, .methodref 14 96), (0, .nameAndType 97 98), (0, u "indexOfChar"), (0, u "([BIII)I"), (2, u "indexOf"), (19, u "$assertionsDisabled"), (0, u "Z"), (98, .class_ 223), (1, u "java/lang/StringLatin1$LinesSpliterator"), (166, .class_ 391), (0, u "java/lang/StringLatin1$CharsSpliterator")] 3

def k10m0 : Method := { name := "<init>", desc := "()V", sig := { parameters := [], returnType := none }, accessFlags := 0, code := none }
def k10c1 : Code := { maxStack := 2, maxLocals := 1, code := jdk_43_method_4_code, exceptionTable := #[], attributes := #[] }
def k10m1 : Method := { name := "canEncode", desc := "(I)Z", sig := { parameters := [.int], returnType := some .boolean }, accessFlags := 9, code := some k10c1 }
def k10c2 : Code := { maxStack := 4, maxLocals := 4, code := jdk_43_method_22_code, exceptionTable := #[], attributes := #[] }
def k10m2 : Method := { name := "indexOf", desc := "([BIII)I", sig := { parameters := [(.array .byte), .int, .int, .int], returnType := some .int }, accessFlags := 9, code := some k10c2 }
def k10c3 : Code := { maxStack := 2, maxLocals := 6, code := jdk_43_method_23_code, exceptionTable := #[], attributes := #[] }
def k10m3 : Method := { name := "indexOfChar", desc := "([BIII)I", sig := { parameters := [(.array .byte), .int, .int, .int], returnType := some .int }, accessFlags := 10, code := some k10c3 }
/-- java/lang/StringLatin1 -/
def k10 : Class := { plain "java/lang/StringLatin1" (some 0) with
  accessFlags := 48
  interfaces := #[]
  cf := some (fileOf pool10 14 #[.nestMembers #[390, 221]] #[{ accessFlags := 0, nameIndex := 7, descriptorIndex := 8, attributes := #[] }, { accessFlags := 9, nameIndex := 90, descriptorIndex := 91, attributes := #[] }, { accessFlags := 9, nameIndex := 101, descriptorIndex := 98, attributes := #[] }, { accessFlags := 10, nameIndex := 97, descriptorIndex := 98, attributes := #[] }] 48 4 #[] #[{ accessFlags := 4120, nameIndex := 121, descriptorIndex := 122, attributes := #[] }])
  fields := #[{ name := "$assertionsDisabled", type := .boolean, accessFlags := 4120, slot := 0, constantValue := 0 }]
  methods := #[k10m0, k10m1, k10m2, k10m3]
  instanceTypes := #[]
  staticTypes := #[.boolean]
  resolved := Array.replicate 395 none
  statics := none }

def pool11 : Array CpInfo := pool [(1, .class_ 2), (0, u "java/lang/Math"), (1, .class_ 6), (1, u "java/lang/Object"), (0, u "<init>"), (0, u "()V"), (89, .class_ 100), (1, u "java/lang/Math$RandomNumberGeneratorHolder"), (71, u "negativeZeroFloatBits"), (0, u "J"), (2, u "negativeZeroDoubleBits"), (21, u "max"), (2, u "min"), (43, u "$assertionsDisabled"), (0, u "Z"), (88, u "(II)I"), (2, u "twoToTheDoubleScaleDown"), (0, u "D"), (4, u "twoToTheDoubleScaleUp"), (9, u "E"), (3, u "PI"), (2, u "TAU"), (2, u "DEGREES_TO_RADIANS"), (0, u "RADIANS_TO_DEGREES")] 94

def k11m0 : Method := { name := "<init>", desc := "()V", sig := { parameters := [], returnType := none }, accessFlags := 2, code := none }
def k11c1 : Code := { maxStack := 2, maxLocals := 2, code := jdk_29_method_65_code, exceptionTable := #[], attributes := #[] }
def k11m1 : Method := { name := "max", desc := "(II)I", sig := { parameters := [.int, .int], returnType := some .int }, accessFlags := 9, code := some k11c1 }
def k11c2 : Code := { maxStack := 2, maxLocals := 2, code := jdk_29_method_69_code, exceptionTable := #[], attributes := #[] }
def k11m2 : Method := { name := "min", desc := "(II)I", sig := { parameters := [.int, .int], returnType := some .int }, accessFlags := 9, code := some k11c2 }
/-- java/lang/Math -/
def k11 : Class := { plain "java/lang/Math" (some 0) with
  accessFlags := 49
  interfaces := #[]
  cf := some (fileOf pool11 1 #[.nestMembers #[98]] #[{ accessFlags := 2, nameIndex := 7, descriptorIndex := 8, attributes := #[] }, { accessFlags := 9, nameIndex := 198, descriptorIndex := 335, attributes := #[] }, { accessFlags := 9, nameIndex := 201, descriptorIndex := 335, attributes := #[] }] 49 4 #[] #[{ accessFlags := 25, nameIndex := 354, descriptorIndex := 339, attributes := #[] }, { accessFlags := 25, nameIndex := 358, descriptorIndex := 339, attributes := #[] }, { accessFlags := 25, nameIndex := 361, descriptorIndex := 339, attributes := #[] }, { accessFlags := 26, nameIndex := 364, descriptorIndex := 339, attributes := #[] }, { accessFlags := 26, nameIndex := 365, descriptorIndex := 339, attributes := #[] }, { accessFlags := 26, nameIndex := 172, descriptorIndex := 173, attributes := #[] }, { accessFlags := 26, nameIndex := 176, descriptorIndex := 173, attributes := #[] }, { accessFlags := 8, nameIndex := 344, descriptorIndex := 339, attributes := #[] }, { accessFlags := 8, nameIndex := 338, descriptorIndex := 339, attributes := #[] }, { accessFlags := 4120, nameIndex := 245, descriptorIndex := 246, attributes := #[] }])
  fields := #[{ name := "E", type := .double, accessFlags := 25, slot := 0, constantValue := 0 }, { name := "PI", type := .double, accessFlags := 25, slot := 1, constantValue := 0 }, { name := "TAU", type := .double, accessFlags := 25, slot := 2, constantValue := 0 }, { name := "DEGREES_TO_RADIANS", type := .double, accessFlags := 26, slot := 3, constantValue := 0 }, { name := "RADIANS_TO_DEGREES", type := .double, accessFlags := 26, slot := 4, constantValue := 0 }, { name := "negativeZeroFloatBits", type := .long, accessFlags := 26, slot := 5, constantValue := 0 }, { name := "negativeZeroDoubleBits", type := .long, accessFlags := 26, slot := 6, constantValue := 0 }, { name := "twoToTheDoubleScaleUp", type := .double, accessFlags := 8, slot := 7, constantValue := 0 }, { name := "twoToTheDoubleScaleDown", type := .double, accessFlags := 8, slot := 8, constantValue := 0 }, { name := "$assertionsDisabled", type := .boolean, accessFlags := 4120, slot := 9, constantValue := 0 }]
  methods := #[k11m0, k11m1, k11m2]
  instanceTypes := #[]
  staticTypes := #[.double, .double, .double, .double, .double, .long, .long, .double, .double, .boolean]
  resolved := Array.replicate 460 none
  statics := none }

def pool12 : Array CpInfo := pool [(2, .class_ 4), (1, u "java/lang/Object"), (0, u "<init>"), (0, u "()V"), (17, .class_ 26), (1, u "jdk/internal/util/Preconditions"), (20, u "checkFromToIndex"), (7, .class_ 56), (0, u "jdk/internal/util/Preconditions$4"), (57, .class_ 115), (0, u "jdk/internal/util/Preconditions$1"), (7, u "SIOOBE_FORMATTER"), (0, u "Ljava/util/function/BiFunction;"), (0, .class_ 126), (0, u "jdk/internal/util/Preconditions$2"), (3, u "AIOOBE_FORMATTER"), (0, .class_ 132), (0, u "jdk/internal/util/Preconditions$3"), (3, u "IOOBE_FORMATTER"), (46, u "(IIILjava/util/function/BiFunction;)I")] 10

def k12m0 : Method := { name := "<init>", desc := "()V", sig := { parameters := [], returnType := none }, accessFlags := 1, code := none }
def k12c1 : Code := { maxStack := 4, maxLocals := 4, code := jdk_41_method_12_code, exceptionTable := #[], attributes := #[] }
def k12m1 : Method := { name := "checkFromToIndex", desc := "(IIILjava/util/function/BiFunction;)I", sig := { parameters := [.int, .int, .int, (.object "java/util/function/BiFunction")], returnType := some .int }, accessFlags := 9, code := some k12c1 }
/-- jdk/internal/util/Preconditions -/
def k12 : Class := { plain "jdk/internal/util/Preconditions" (some 0) with
  accessFlags := 33
  interfaces := #[]
  cf := some (fileOf pool12 24 #[.nestMembers #[55, 131, 125, 114]] #[{ accessFlags := 1, nameIndex := 5, descriptorIndex := 6, attributes := #[] }, { accessFlags := 9, nameIndex := 47, descriptorIndex := 183, attributes := #[] }] 33 2 #[] #[{ accessFlags := 25, nameIndex := 123, descriptorIndex := 124, attributes := #[] }, { accessFlags := 25, nameIndex := 130, descriptorIndex := 124, attributes := #[] }, { accessFlags := 25, nameIndex := 136, descriptorIndex := 124, attributes := #[] }])
  fields := #[{ name := "SIOOBE_FORMATTER", type := (.object "java/util/function/BiFunction"), accessFlags := 25, slot := 0, constantValue := 0 }, { name := "AIOOBE_FORMATTER", type := (.object "java/util/function/BiFunction"), accessFlags := 25, slot := 1, constantValue := 0 }, { name := "IOOBE_FORMATTER", type := (.object "java/util/function/BiFunction"), accessFlags := 25, slot := 2, constantValue := 0 }]
  methods := #[k12m0, k12m1]
  instanceTypes := #[]
  staticTypes := #[(.object "java/util/function/BiFunction"), (.object "java/util/function/BiFunction"), (.object "java/util/function/BiFunction")]
  resolved := Array.replicate 194 none
  statics := some 2 }

def pool13 : Array CpInfo := pool [(9, u "<init>"), (6, .class_ 18), (1, u "java/lang/Object"), (0, u "()V"), (1, .class_ 23), (1, u "jdk/internal/util/ArraysSupport"), (0, u "LOG2_ARRAY_LONG_INDEX_SCALE"), (0, u "I"), (2, u "U"), (0, u "Ljdk/internal/misc/Unsafe;"), (8, u "BIG_ENDIAN"), (0, u "Z"), (8, u "LOG2_BYTE_BIT_SIZE"), (4, u "LOG2_ARRAY_INT_INDEX_SCALE"), (54, u "JLA"), (0, u "Ljdk/internal/access/JavaLangAccess;"), (11, u "LOG2_ARRAY_BOOLEAN_INDEX_SCALE"), (9, u "LOG2_ARRAY_BYTE_INDEX_SCALE"), (5, u "LOG2_ARRAY_CHAR_INDEX_SCALE"), (5, u "LOG2_ARRAY_SHORT_INDEX_SCALE"), (18, u "LOG2_ARRAY_FLOAT_INDEX_SCALE"), (24, u "LOG2_ARRAY_DOUBLE_INDEX_SCALE"), (89, u "T_BOOLEAN"), (2, u "T_CHAR"), (1, u "T_FLOAT"), (1, u "T_DOUBLE"), (1, u "T_BYTE"), (1, u "T_SHORT"), (1, u "T_INT"), (1, u "T_LONG"), (1, u "SOFT_MAX_ARRAY_LENGTH")] 83

def k13m0 : Method := { name := "<init>", desc := "()V", sig := { parameters := [], returnType := none }, accessFlags := 2, code := none }
/-- jdk/internal/util/ArraysSupport -/
def k13 : Class := { plain "jdk/internal/util/ArraysSupport" (some 0) with
  accessFlags := 33
  interfaces := #[]
  cf := some (fileOf pool13 21 #[] #[{ accessFlags := 2, nameIndex := 9, descriptorIndex := 19, attributes := #[] }] 33 16 #[] #[{ accessFlags := 24, nameIndex := 28, descriptorIndex := 29, attributes := #[] }, { accessFlags := 26, nameIndex := 38, descriptorIndex := 39, attributes := #[] }, { accessFlags := 25, nameIndex := 121, descriptorIndex := 25, attributes := #[] }, { accessFlags := 25, nameIndex := 131, descriptorIndex := 25, attributes := #[] }, { accessFlags := 25, nameIndex := 137, descriptorIndex := 25, attributes := #[] }, { accessFlags := 25, nameIndex := 143, descriptorIndex := 25, attributes := #[] }, { accessFlags := 25, nameIndex := 53, descriptorIndex := 25, attributes := #[] }, { accessFlags := 25, nameIndex := 24, descriptorIndex := 25, attributes := #[] }, { accessFlags := 25, nameIndex := 162, descriptorIndex := 25, attributes := #[] }, { accessFlags := 25, nameIndex := 187, descriptorIndex := 25, attributes := #[] }, { accessFlags := 26, nameIndex := 48, descriptorIndex := 25, attributes := #[] }, { accessFlags := 25, nameIndex := 277, descriptorIndex := 25, attributes := #[] }, { accessFlags := 25, nameIndex := 280, descriptorIndex := 25, attributes := #[] }, { accessFlags := 25, nameIndex := 282, descriptorIndex := 25, attributes := #[] }, { accessFlags := 25, nameIndex := 284, descriptorIndex := 25, attributes := #[] }, { accessFlags := 25, nameIndex := 286, descriptorIndex := 25, attributes := #[] }, { accessFlags := 25, nameIndex := 288, descriptorIndex := 25, attributes := #[] }, { accessFlags := 25, nameIndex := 290, descriptorIndex := 25, attributes := #[] }, { accessFlags := 25, nameIndex := 292, descriptorIndex := 25, attributes := #[] }, { accessFlags := 26, nameIndex := 108, descriptorIndex := 109, attributes := #[] }, { accessFlags := 25, nameIndex := 294, descriptorIndex := 25, attributes := #[] }])
  fields := #[{ name := "U", type := (.object "jdk/internal/misc/Unsafe"), accessFlags := 24, slot := 0, constantValue := 0 }, { name := "BIG_ENDIAN", type := .boolean, accessFlags := 26, slot := 1, constantValue := 0 }, { name := "LOG2_ARRAY_BOOLEAN_INDEX_SCALE", type := .int, accessFlags := 25, slot := 2, constantValue := 0 }, { name := "LOG2_ARRAY_BYTE_INDEX_SCALE", type := .int, accessFlags := 25, slot := 3, constantValue := 0 }, { name := "LOG2_ARRAY_CHAR_INDEX_SCALE", type := .int, accessFlags := 25, slot := 4, constantValue := 0 }, { name := "LOG2_ARRAY_SHORT_INDEX_SCALE", type := .int, accessFlags := 25, slot := 5, constantValue := 0 }, { name := "LOG2_ARRAY_INT_INDEX_SCALE", type := .int, accessFlags := 25, slot := 6, constantValue := 0 }, { name := "LOG2_ARRAY_LONG_INDEX_SCALE", type := .int, accessFlags := 25, slot := 7, constantValue := 0 }, { name := "LOG2_ARRAY_FLOAT_INDEX_SCALE", type := .int, accessFlags := 25, slot := 8, constantValue := 0 }, { name := "LOG2_ARRAY_DOUBLE_INDEX_SCALE", type := .int, accessFlags := 25, slot := 9, constantValue := 0 }, { name := "LOG2_BYTE_BIT_SIZE", type := .int, accessFlags := 26, slot := 10, constantValue := 0 }, { name := "T_BOOLEAN", type := .int, accessFlags := 25, slot := 11, constantValue := 0 }, { name := "T_CHAR", type := .int, accessFlags := 25, slot := 12, constantValue := 0 }, { name := "T_FLOAT", type := .int, accessFlags := 25, slot := 13, constantValue := 0 }, { name := "T_DOUBLE", type := .int, accessFlags := 25, slot := 14, constantValue := 0 }, { name := "T_BYTE", type := .int, accessFlags := 25, slot := 15, constantValue := 0 }, { name := "T_SHORT", type := .int, accessFlags := 25, slot := 16, constantValue := 0 }, { name := "T_INT", type := .int, accessFlags := 25, slot := 17, constantValue := 0 }, { name := "T_LONG", type := .int, accessFlags := 25, slot := 18, constantValue := 0 }, { name := "JLA", type := (.object "jdk/internal/access/JavaLangAccess"), accessFlags := 26, slot := 19, constantValue := 0 }, { name := "SOFT_MAX_ARRAY_LENGTH", type := .int, accessFlags := 25, slot := 20, constantValue := 0 }]
  methods := #[k13m0]
  instanceTypes := #[]
  staticTypes := #[(.object "jdk/internal/misc/Unsafe"), .boolean, .int, .int, .int, .int, .int, .int, .int, .int, .int, .int, .int, .int, .int, .int, .int, .int, .int, (.object "jdk/internal/access/JavaLangAccess"), .int]
  resolved := Array.replicate 378 none
  statics := none }

def pool14 : Array CpInfo := pool [(1, u "java/lang/Cloneable"), (0, .class_ 1), (0, u "java/lang/Object"), (0, .class_ 3)] 3

/-- java/lang/Cloneable -/
def k14 : Class := { plain "java/lang/Cloneable" (some 0) with
  accessFlags := 1537
  interfaces := #[]
  cf := some (fileOf pool14 2 #[] #[] 1537 4 #[] #[])
  fields := #[]
  methods := #[]
  instanceTypes := #[]
  staticTypes := #[]
  resolved := Array.replicate 8 none
  statics := none }

/-- the primitive byte -/
def k15 : Class := { plain "byte" none with kind := .primitive 'B', accessFlags := 0x411 }
/-- [B -/
def k16 : Class := { plain "[B" (some 0) with kind := .array 15 .byte, interfaces := #[14, 2], accessFlags := 1041 }

/-- the primitive char -/
def k17 : Class := { plain "char" none with kind := .primitive 'C', accessFlags := 0x411 }
/-- [C -/
def k18 : Class := { plain "[C" (some 0) with kind := .array 17 .char, interfaces := #[14, 2], accessFlags := 1041 }

/-- the primitive int -/
def k19 : Class := { plain "int" none with kind := .primitive 'I', accessFlags := 0x411 }
/-- [I -/
def k20 : Class := { plain "[I" (some 0) with kind := .array 19 .int, interfaces := #[14, 2], accessFlags := 1041 }

def heap : Heap := #[{ cls := 7, slots := #[.long 0, .int 1, .null, .int 0, .null, .int 0, .int 0], vm := .statics 7 },
  { cls := 8, slots := #[.int 0, .int 8, .int 0, .int 1], vm := .statics 8 },
  { cls := 12, slots := #[.null, .null, .null], vm := .statics 12 }]
def classes : Array Class := #[k0, k1, k2, k3, k4, k5, k6, k7, k8, k9, k10, k11, k12, k13, k14, k15, k16, k17, k18, k19, k20]
def interned : List (Array UInt16 × Addr) := []
def slotsUsed : Nat := 14
def theMethod : MethodId := ⟨1, 2⟩
def args0 : Array Value := #[.int 5, .int 5, .int 5, .int 5]
def aboutOver (below : List Frame) : State where
  vm := { classes := classes, interned := interned.toArray }
  heap := heap
  slotsUsed := slotsUsed
  threads := #[{ frames := .invoking theMethod args0 :: below }]
def below0 : List Frame := [.native { method := ⟨0, 0⟩, args := #[] }]
def about1 : State := aboutOver below0
def p0 : Program := .bare "" "" ""
def e0 : Env := launch0.env 0 0 0
theorem w_frames : about1.frames = Frame.invoking theMethod args0 :: below0 := rfl
set_option maxRecDepth 65536 in
theorem w_args : argsFit about1.vm theMethod args0 = true := by decide +kernel
set_option maxRecDepth 65536 in
theorem w_heap : heapFits about1 = true := by decide +kernel
set_option maxRecDepth 65536 in
theorem w_runnable : about1.curStatus? = some .runnable := by decide +kernel
set_option maxRecDepth 65536 in
theorem w_alone : about1.alone = true := by decide +kernel
set_option maxRecDepth 65536 in
theorem w_named : about1.methodNamed? x = some theMethod := by decide +kernel
set_option maxRecDepth 65536 in
theorem w_hears : about1.hears theMethod below0 = true := by decide +kernel
set_option maxRecDepth 65536 in
theorem w_ripe : about1.ripe theMethod args0 below0 = true := by decide +kernel
theorem w_running : about1.status = .running := rfl
set_option maxRecDepth 65536 in
theorem w_room : about1.hasRoom e0.platform room_1 = true :=
  launch0.hasRoom_least _ room_1 (by decide +kernel) (by decide +kernel) (by decide +kernel) (by decide +kernel) (by decide +kernel) (by decide +kernel)
theorem allAtoms_all (ts : List Jvm.Cond) (a : Array Jvm.Value) (st : Jvm.State) : (allAtoms ts).before a st = ts.all (fun c => c.before a st) := by
  induction ts with
  | nil => rfl
  | cons c t ih =>
    show (Jvm.Cond.and c (allAtoms t)).before a st = _
    rw [Jvm.Cond.before_and, ih, List.all_cons]
def words1 : List Jvm.Cond := Jvm.Cond.code x code maxLocals ret :: tables_1
/-- a 'code' word, met by the world's own term for the bytes: nothing is compared byte by byte -/
theorem code_word {y : MethodName} {bytes : ByteArray} {mx : Nat} {rt : Option FieldType} {a : Array Value} {s : State} {m : MethodId} {meth : Method} {c : Code} (h1 : s.methodNamed? y = some m) (h2 : s.vm.method? m = some meth) (h3 : meth.code = some c) (h4 : c.code = bytes)
    (h5 : (c.maxLocals == mx && c.exceptionTable.isEmpty && decide (c.maxStack ≤ mostOperands) && decide (meth.sig.returnType = rt) && !meth.locks && decide (parseMethodDescriptor y.desc = some meth.sig)) = true) : (Jvm.Cond.code y bytes mx rt).before a s = true := by
  simp only [Bool.and_eq_true, beq_iff_eq, Bool.not_eq_true', decide_eq_true_eq] at h5
  obtain ⟨⟨⟨⟨⟨g1, g2⟩, g3⟩, g4⟩, g5⟩, g6⟩ := h5
  simp [Cond.before, Cond.holds, Cond.value, h1, h2, h3, h4, g1, g2, g3, g4, g5, g6]
def isCode : Jvm.Cond → Bool
  | .code _ _ _ _ => true
  | _ => false
theorem all_split {L : List Jvm.Cond} {P : Jvm.Cond → Bool} (h1 : L.all (fun c => isCode c || P c) = true) (h2 : ∀ c ∈ L.filter isCode, P c = true) : L.all P = true := by
  refine List.all_eq_true.mpr fun c hc => ?_
  have h := List.all_eq_true.mp h1 c hc
  rcases Bool.eq_false_or_eq_true (isCode c) with hi | hi
  · exact h2 c (List.mem_filter.mpr ⟨hc, hi⟩)
  · simpa [hi] using h
set_option maxRecDepth 65536 in
theorem w_c0 : (Jvm.Cond.code x code maxLocals ret).before args0 about1 = true := code_word (m := ⟨1, 2⟩) (meth := k1m2) (c := k1c2) (by decide +kernel) rfl rfl rfl (by decide +kernel)
set_option maxRecDepth 65536 in
theorem w_c1 : (Jvm.Cond.code ({ cls := "com/example/exact_gate/exactgate/NamesRequireOneLinePinLaw", name := "isBreak", desc := "(C)Z" } : Jvm.MethodName) method_2_code (1 : Nat) (Option.some Jvm.ClassFile.FieldType.boolean)).before args0 about1 = true := code_word (m := ⟨1, 1⟩) (meth := k1m1) (c := k1c1) (by decide +kernel) rfl rfl rfl (by decide +kernel)
set_option maxRecDepth 65536 in
theorem w_c2 : (Jvm.Cond.code ({ cls := "java/lang/String", name := "<init>", desc := "([C)V" } : Jvm.MethodName) jdk_42_method_3_code (2 : Nat) (Option.none : Option Jvm.ClassFile.FieldType)).before args0 about1 = true := code_word (m := ⟨7, 1⟩) (meth := k7m1) (c := k7c1) (by decide +kernel) rfl rfl rfl (by decide +kernel)
set_option maxRecDepth 65536 in
theorem w_c3 : (Jvm.Cond.code ({ cls := "java/lang/String", name := "<init>", desc := "([CIILjava/lang/Void;)V" } : Jvm.MethodName) jdk_42_method_149_code (6 : Nat) (Option.none : Option Jvm.ClassFile.FieldType)).before args0 about1 = true := code_word (m := ⟨7, 5⟩) (meth := k7m5) (c := k7c5) (by decide +kernel) rfl rfl rfl (by decide +kernel)
set_option maxRecDepth 65536 in
theorem w_c4 : (Jvm.Cond.code ({ cls := "java/lang/Object", name := "<init>", desc := "()V" } : Jvm.MethodName) object_method_1_code (1 : Nat) (Option.none : Option Jvm.ClassFile.FieldType)).before args0 about1 = true := code_word (m := ⟨0, 0⟩) (meth := k0m0) (c := k0c0) (by decide +kernel) rfl rfl rfl (by decide +kernel)
set_option maxRecDepth 65536 in
theorem w_c5 : (Jvm.Cond.code ({ cls := "java/lang/StringUTF16", name := "compress", desc := "([CII)[B" } : Jvm.MethodName) jdk_52_method_16_code (6 : Nat) (Option.some (Jvm.ClassFile.FieldType.array Jvm.ClassFile.FieldType.byte))).before args0 about1 = true := code_word (m := ⟨8, 8⟩) (meth := k8m8) (c := k8c8) (by decide +kernel) rfl rfl rfl (by decide +kernel)
set_option maxRecDepth 65536 in
theorem w_c6 : (Jvm.Cond.code ({ cls := "java/lang/StringUTF16", name := "compress", desc := "([CI[BII)I" } : Jvm.MethodName) jdk_52_method_21_code (7 : Nat) (Option.some Jvm.ClassFile.FieldType.int)).before args0 about1 = true := code_word (m := ⟨8, 9⟩) (meth := k8m9) (c := k8c9) (by decide +kernel) rfl rfl rfl (by decide +kernel)
set_option maxRecDepth 65536 in
theorem w_c7 : (Jvm.Cond.code ({ cls := "java/lang/StringUTF16", name := "coderFromArrayLen", desc := "([BI)B" } : Jvm.MethodName) jdk_52_method_15_code (2 : Nat) (Option.some Jvm.ClassFile.FieldType.byte)).before args0 about1 = true := code_word (m := ⟨8, 7⟩) (meth := k8m7) (c := k8c7) (by decide +kernel) rfl rfl rfl (by decide +kernel)
set_option maxRecDepth 65536 in
theorem w_c8 : (Jvm.Cond.code ({ cls := "com/example/exact_gate/exactgate/Names", name := "requireOneLine", desc := "(Ljava/lang/String;Ljava/lang/String;)Ljava/lang/String;" } : Jvm.MethodName) prog_2_method_6_code (2 : Nat) (Option.some (Jvm.ClassFile.FieldType.object "java/lang/String"))).before args0 about1 = true := code_word (m := ⟨9, 1⟩) (meth := k9m1) (c := k9c1) (by decide +kernel) rfl rfl rfl (by decide +kernel)
set_option maxRecDepth 65536 in
theorem w_c9 : (Jvm.Cond.code ({ cls := "java/lang/String", name := "indexOf", desc := "(I)I" } : Jvm.MethodName) jdk_42_method_79_code (2 : Nat) (Option.some Jvm.ClassFile.FieldType.int)).before args0 about1 = true := code_word (m := ⟨7, 3⟩) (meth := k7m3) (c := k7c3) (by decide +kernel) rfl rfl rfl (by decide +kernel)
set_option maxRecDepth 65536 in
theorem w_c10 : (Jvm.Cond.code ({ cls := "java/lang/String", name := "indexOf", desc := "(II)I" } : Jvm.MethodName) jdk_42_method_80_code (3 : Nat) (Option.some Jvm.ClassFile.FieldType.int)).before args0 about1 = true := code_word (m := ⟨7, 4⟩) (meth := k7m4) (c := k7c4) (by decide +kernel) rfl rfl rfl (by decide +kernel)
set_option maxRecDepth 65536 in
theorem w_c11 : (Jvm.Cond.code ({ cls := "java/lang/String", name := "isLatin1", desc := "()Z" } : Jvm.MethodName) jdk_42_method_154_code (1 : Nat) (Option.some Jvm.ClassFile.FieldType.boolean)).before args0 about1 = true := code_word (m := ⟨7, 7⟩) (meth := k7m7) (c := k7c7) (by decide +kernel) rfl rfl rfl (by decide +kernel)
set_option maxRecDepth 65536 in
theorem w_c12 : (Jvm.Cond.code ({ cls := "java/lang/String", name := "length", desc := "()I" } : Jvm.MethodName) jdk_42_method_54_code (1 : Nat) (Option.some Jvm.ClassFile.FieldType.int)).before args0 about1 = true := code_word (m := ⟨7, 2⟩) (meth := k7m2) (c := k7c2) (by decide +kernel) rfl rfl rfl (by decide +kernel)
set_option maxRecDepth 65536 in
theorem w_c13 : (Jvm.Cond.code ({ cls := "java/lang/String", name := "coder", desc := "()B" } : Jvm.MethodName) jdk_42_method_152_code (1 : Nat) (Option.some Jvm.ClassFile.FieldType.byte)).before args0 about1 = true := code_word (m := ⟨7, 6⟩) (meth := k7m6) (c := k7c6) (by decide +kernel) rfl rfl rfl (by decide +kernel)
set_option maxRecDepth 65536 in
theorem w_c14 : (Jvm.Cond.code ({ cls := "java/lang/StringLatin1", name := "indexOf", desc := "([BIII)I" } : Jvm.MethodName) jdk_43_method_22_code (4 : Nat) (Option.some Jvm.ClassFile.FieldType.int)).before args0 about1 = true := code_word (m := ⟨10, 2⟩) (meth := k10m2) (c := k10c2) (by decide +kernel) rfl rfl rfl (by decide +kernel)
set_option maxRecDepth 65536 in
theorem w_c15 : (Jvm.Cond.code ({ cls := "java/lang/StringLatin1", name := "canEncode", desc := "(I)Z" } : Jvm.MethodName) jdk_43_method_4_code (1 : Nat) (Option.some Jvm.ClassFile.FieldType.boolean)).before args0 about1 = true := code_word (m := ⟨10, 1⟩) (meth := k10m1) (c := k10c1) (by decide +kernel) rfl rfl rfl (by decide +kernel)
set_option maxRecDepth 65536 in
theorem w_c16 : (Jvm.Cond.code ({ cls := "java/lang/Math", name := "max", desc := "(II)I" } : Jvm.MethodName) jdk_29_method_65_code (2 : Nat) (Option.some Jvm.ClassFile.FieldType.int)).before args0 about1 = true := code_word (m := ⟨11, 1⟩) (meth := k11m1) (c := k11c1) (by decide +kernel) rfl rfl rfl (by decide +kernel)
set_option maxRecDepth 65536 in
theorem w_c17 : (Jvm.Cond.code ({ cls := "java/lang/Math", name := "min", desc := "(II)I" } : Jvm.MethodName) jdk_29_method_69_code (2 : Nat) (Option.some Jvm.ClassFile.FieldType.int)).before args0 about1 = true := code_word (m := ⟨11, 2⟩) (meth := k11m2) (c := k11c2) (by decide +kernel) rfl rfl rfl (by decide +kernel)
set_option maxRecDepth 65536 in
theorem w_c18 : (Jvm.Cond.code ({ cls := "java/lang/StringLatin1", name := "indexOfChar", desc := "([BIII)I" } : Jvm.MethodName) jdk_43_method_23_code (6 : Nat) (Option.some Jvm.ClassFile.FieldType.int)).before args0 about1 = true := code_word (m := ⟨10, 3⟩) (meth := k10m3) (c := k10c3) (by decide +kernel) rfl rfl rfl (by decide +kernel)
set_option maxRecDepth 65536 in
theorem w_c19 : (Jvm.Cond.code ({ cls := "java/lang/StringUTF16", name := "toBytes", desc := "([CII)[B" } : Jvm.MethodName) jdk_52_method_14_code (5 : Nat) (Option.some (Jvm.ClassFile.FieldType.array Jvm.ClassFile.FieldType.byte))).before args0 about1 = true := code_word (m := ⟨8, 6⟩) (meth := k8m6) (c := k8c6) (by decide +kernel) rfl rfl rfl (by decide +kernel)
set_option maxRecDepth 65536 in
theorem w_c20 : (Jvm.Cond.code ({ cls := "java/lang/StringUTF16", name := "newBytesFor", desc := "(I)[B" } : Jvm.MethodName) jdk_52_method_2_code (1 : Nat) (Option.some (Jvm.ClassFile.FieldType.array Jvm.ClassFile.FieldType.byte))).before args0 about1 = true := code_word (m := ⟨8, 1⟩) (meth := k8m1) (c := k8c1) (by decide +kernel) rfl rfl rfl (by decide +kernel)
set_option maxRecDepth 65536 in
theorem w_c21 : (Jvm.Cond.code ({ cls := "java/lang/StringUTF16", name := "newBytesLength", desc := "(I)I" } : Jvm.MethodName) jdk_52_method_3_code (1 : Nat) (Option.some Jvm.ClassFile.FieldType.int)).before args0 about1 = true := code_word (m := ⟨8, 2⟩) (meth := k8m2) (c := k8c2) (by decide +kernel) rfl rfl rfl (by decide +kernel)
set_option maxRecDepth 65536 in
theorem w_c22 : (Jvm.Cond.code ({ cls := "java/lang/StringUTF16", name := "putChar", desc := "([BII)V" } : Jvm.MethodName) jdk_52_method_4_code (3 : Nat) (Option.none : Option Jvm.ClassFile.FieldType)).before args0 about1 = true := code_word (m := ⟨8, 3⟩) (meth := k8m3) (c := k8c3) (by decide +kernel) rfl rfl rfl (by decide +kernel)
set_option maxRecDepth 65536 in
theorem w_c23 : (Jvm.Cond.code ({ cls := "java/lang/StringUTF16", name := "getChar", desc := "([BI)C" } : Jvm.MethodName) jdk_52_method_5_code (2 : Nat) (Option.some Jvm.ClassFile.FieldType.char)).before args0 about1 = true := code_word (m := ⟨8, 4⟩) (meth := k8m4) (c := k8c4) (by decide +kernel) rfl rfl rfl (by decide +kernel)
set_option maxRecDepth 65536 in
theorem w_c24 : (Jvm.Cond.code ({ cls := "java/lang/StringUTF16", name := "indexOf", desc := "([BIII)I" } : Jvm.MethodName) jdk_52_method_40_code (4 : Nat) (Option.some Jvm.ClassFile.FieldType.int)).before args0 about1 = true := code_word (m := ⟨8, 10⟩) (meth := k8m10) (c := k8c10) (by decide +kernel) rfl rfl rfl (by decide +kernel)
set_option maxRecDepth 65536 in
theorem w_c25 : (Jvm.Cond.code ({ cls := "java/lang/StringUTF16", name := "indexOfChar", desc := "([BIII)I" } : Jvm.MethodName) jdk_52_method_47_code (4 : Nat) (Option.some Jvm.ClassFile.FieldType.int)).before args0 about1 = true := code_word (m := ⟨8, 11⟩) (meth := k8m11) (c := k8c11) (by decide +kernel) rfl rfl rfl (by decide +kernel)
set_option maxRecDepth 65536 in
theorem w_c26 : (Jvm.Cond.code ({ cls := "java/lang/StringUTF16", name := "checkBoundsBeginEnd", desc := "(II[B)V" } : Jvm.MethodName) jdk_52_method_93_code (3 : Nat) (Option.none : Option Jvm.ClassFile.FieldType)).before args0 about1 = true := code_word (m := ⟨8, 13⟩) (meth := k8m13) (c := k8c13) (by decide +kernel) rfl rfl rfl (by decide +kernel)
set_option maxRecDepth 65536 in
theorem w_c27 : (Jvm.Cond.code ({ cls := "java/lang/StringUTF16", name := "length", desc := "([B)I" } : Jvm.MethodName) jdk_52_method_6_code (1 : Nat) (Option.some Jvm.ClassFile.FieldType.int)).before args0 about1 = true := code_word (m := ⟨8, 5⟩) (meth := k8m5) (c := k8c5) (by decide +kernel) rfl rfl rfl (by decide +kernel)
set_option maxRecDepth 65536 in
theorem w_c28 : (Jvm.Cond.code ({ cls := "java/lang/String", name := "checkBoundsBeginEnd", desc := "(III)V" } : Jvm.MethodName) jdk_42_method_158_code (3 : Nat) (Option.none : Option Jvm.ClassFile.FieldType)).before args0 about1 = true := code_word (m := ⟨7, 8⟩) (meth := k7m8) (c := k7c8) (by decide +kernel) rfl rfl rfl (by decide +kernel)
set_option maxRecDepth 65536 in
theorem w_c29 : (Jvm.Cond.code ({ cls := "jdk/internal/util/Preconditions", name := "checkFromToIndex", desc := "(IIILjava/util/function/BiFunction;)I" } : Jvm.MethodName) jdk_41_method_12_code (4 : Nat) (Option.some Jvm.ClassFile.FieldType.int)).before args0 about1 = true := code_word (m := ⟨12, 1⟩) (meth := k12m1) (c := k12c1) (by decide +kernel) rfl rfl rfl (by decide +kernel)
set_option maxRecDepth 65536 in
theorem w_c30 : (Jvm.Cond.code ({ cls := "java/lang/StringUTF16", name := "indexOfCharUnsafe", desc := "([BIII)I" } : Jvm.MethodName) jdk_52_method_48_code (5 : Nat) (Option.some Jvm.ClassFile.FieldType.int)).before args0 about1 = true := code_word (m := ⟨8, 12⟩) (meth := k8m12) (c := k8c12) (by decide +kernel) rfl rfl rfl (by decide +kernel)
def codes1 : List Jvm.Cond := [Jvm.Cond.code x code maxLocals ret, Jvm.Cond.code ({ cls := "com/example/exact_gate/exactgate/NamesRequireOneLinePinLaw", name := "isBreak", desc := "(C)Z" } : Jvm.MethodName) method_2_code (1 : Nat) (Option.some Jvm.ClassFile.FieldType.boolean), Jvm.Cond.code ({ cls := "java/lang/String", name := "<init>", desc := "([C)V" } : Jvm.MethodName) jdk_42_method_3_code (2 : Nat) (Option.none : Option Jvm.ClassFile.FieldType), Jvm.Cond.code ({ cls := "java/lang/String", name := "<init>", desc := "([CIILjava/lang/Void;)V" } : Jvm.MethodName) jdk_42_method_149_code (6 : Nat) (Option.none : Option Jvm.ClassFile.FieldType), Jvm.Cond.code ({ cls := "java/lang/Object", name := "<init>", desc := "()V" } : Jvm.MethodName) object_method_1_code (1 : Nat) (Option.none : Option Jvm.ClassFile.FieldType), Jvm.Cond.code ({ cls := "java/lang/StringUTF16", name := "compress", desc := "([CII)[B" } : Jvm.MethodName) jdk_52_method_16_code (6 : Nat) (Option.some (Jvm.ClassFile.FieldType.array Jvm.ClassFile.FieldType.byte)), Jvm.Cond.code ({ cls := "java/lang/StringUTF16", name := "compress", desc := "([CI[BII)I" } : Jvm.MethodName) jdk_52_method_21_code (7 : Nat) (Option.some Jvm.ClassFile.FieldType.int), Jvm.Cond.code ({ cls := "java/lang/StringUTF16", name := "coderFromArrayLen", desc := "([BI)B" } : Jvm.MethodName) jdk_52_method_15_code (2 : Nat) (Option.some Jvm.ClassFile.FieldType.byte), Jvm.Cond.code ({ cls := "com/example/exact_gate/exactgate/Names", name := "requireOneLine", desc := "(Ljava/lang/String;Ljava/lang/String;)Ljava/lang/String;" } : Jvm.MethodName) prog_2_method_6_code (2 : Nat) (Option.some (Jvm.ClassFile.FieldType.object "java/lang/String")), Jvm.Cond.code ({ cls := "java/lang/String", name := "indexOf", desc := "(I)I" } : Jvm.MethodName) jdk_42_method_79_code (2 : Nat) (Option.some Jvm.ClassFile.FieldType.int), Jvm.Cond.code ({ cls := "java/lang/String", name := "indexOf", desc := "(II)I" } : Jvm.MethodName) jdk_42_method_80_code (3 : Nat) (Option.some Jvm.ClassFile.FieldType.int), Jvm.Cond.code ({ cls := "java/lang/String", name := "isLatin1", desc := "()Z" } : Jvm.MethodName) jdk_42_method_154_code (1 : Nat) (Option.some Jvm.ClassFile.FieldType.boolean), Jvm.Cond.code ({ cls := "java/lang/String", name := "length", desc := "()I" } : Jvm.MethodName) jdk_42_method_54_code (1 : Nat) (Option.some Jvm.ClassFile.FieldType.int), Jvm.Cond.code ({ cls := "java/lang/String", name := "coder", desc := "()B" } : Jvm.MethodName) jdk_42_method_152_code (1 : Nat) (Option.some Jvm.ClassFile.FieldType.byte), Jvm.Cond.code ({ cls := "java/lang/StringLatin1", name := "indexOf", desc := "([BIII)I" } : Jvm.MethodName) jdk_43_method_22_code (4 : Nat) (Option.some Jvm.ClassFile.FieldType.int), Jvm.Cond.code ({ cls := "java/lang/StringLatin1", name := "canEncode", desc := "(I)Z" } : Jvm.MethodName) jdk_43_method_4_code (1 : Nat) (Option.some Jvm.ClassFile.FieldType.boolean), Jvm.Cond.code ({ cls := "java/lang/Math", name := "max", desc := "(II)I" } : Jvm.MethodName) jdk_29_method_65_code (2 : Nat) (Option.some Jvm.ClassFile.FieldType.int), Jvm.Cond.code ({ cls := "java/lang/Math", name := "min", desc := "(II)I" } : Jvm.MethodName) jdk_29_method_69_code (2 : Nat) (Option.some Jvm.ClassFile.FieldType.int), Jvm.Cond.code ({ cls := "java/lang/StringLatin1", name := "indexOfChar", desc := "([BIII)I" } : Jvm.MethodName) jdk_43_method_23_code (6 : Nat) (Option.some Jvm.ClassFile.FieldType.int), Jvm.Cond.code ({ cls := "java/lang/StringUTF16", name := "toBytes", desc := "([CII)[B" } : Jvm.MethodName) jdk_52_method_14_code (5 : Nat) (Option.some (Jvm.ClassFile.FieldType.array Jvm.ClassFile.FieldType.byte)), Jvm.Cond.code ({ cls := "java/lang/StringUTF16", name := "newBytesFor", desc := "(I)[B" } : Jvm.MethodName) jdk_52_method_2_code (1 : Nat) (Option.some (Jvm.ClassFile.FieldType.array Jvm.ClassFile.FieldType.byte)), Jvm.Cond.code ({ cls := "java/lang/StringUTF16", name := "newBytesLength", desc := "(I)I" } : Jvm.MethodName) jdk_52_method_3_code (1 : Nat) (Option.some Jvm.ClassFile.FieldType.int), Jvm.Cond.code ({ cls := "java/lang/StringUTF16", name := "putChar", desc := "([BII)V" } : Jvm.MethodName) jdk_52_method_4_code (3 : Nat) (Option.none : Option Jvm.ClassFile.FieldType), Jvm.Cond.code ({ cls := "java/lang/StringUTF16", name := "getChar", desc := "([BI)C" } : Jvm.MethodName) jdk_52_method_5_code (2 : Nat) (Option.some Jvm.ClassFile.FieldType.char), Jvm.Cond.code ({ cls := "java/lang/StringUTF16", name := "indexOf", desc := "([BIII)I" } : Jvm.MethodName) jdk_52_method_40_code (4 : Nat) (Option.some Jvm.ClassFile.FieldType.int), Jvm.Cond.code ({ cls := "java/lang/StringUTF16", name := "indexOfChar", desc := "([BIII)I" } : Jvm.MethodName) jdk_52_method_47_code (4 : Nat) (Option.some Jvm.ClassFile.FieldType.int), Jvm.Cond.code ({ cls := "java/lang/StringUTF16", name := "checkBoundsBeginEnd", desc := "(II[B)V" } : Jvm.MethodName) jdk_52_method_93_code (3 : Nat) (Option.none : Option Jvm.ClassFile.FieldType), Jvm.Cond.code ({ cls := "java/lang/StringUTF16", name := "length", desc := "([B)I" } : Jvm.MethodName) jdk_52_method_6_code (1 : Nat) (Option.some Jvm.ClassFile.FieldType.int), Jvm.Cond.code ({ cls := "java/lang/String", name := "checkBoundsBeginEnd", desc := "(III)V" } : Jvm.MethodName) jdk_42_method_158_code (3 : Nat) (Option.none : Option Jvm.ClassFile.FieldType), Jvm.Cond.code ({ cls := "jdk/internal/util/Preconditions", name := "checkFromToIndex", desc := "(IIILjava/util/function/BiFunction;)I" } : Jvm.MethodName) jdk_41_method_12_code (4 : Nat) (Option.some Jvm.ClassFile.FieldType.int), Jvm.Cond.code ({ cls := "java/lang/StringUTF16", name := "indexOfCharUnsafe", desc := "([BIII)I" } : Jvm.MethodName) jdk_52_method_48_code (5 : Nat) (Option.some Jvm.ClassFile.FieldType.int)]
set_option maxRecDepth 65536 in
theorem codes_eq : words1.filter isCode = codes1 := rfl
theorem w_codes : ∀ c ∈ words1.filter isCode, c.before args0 about1 = true := by
  rw [codes_eq]
  intro c hc
  simp only [codes1, List.mem_cons, List.not_mem_nil, or_false] at hc
  rcases hc with rfl | rfl | rfl | rfl | rfl | rfl | rfl | rfl | rfl | rfl | rfl | rfl | rfl | rfl | rfl | rfl | rfl | rfl | rfl | rfl | rfl | rfl | rfl | rfl | rfl | rfl | rfl | rfl | rfl | rfl | rfl
  · exact w_c0
  · exact w_c1
  · exact w_c2
  · exact w_c3
  · exact w_c4
  · exact w_c5
  · exact w_c6
  · exact w_c7
  · exact w_c8
  · exact w_c9
  · exact w_c10
  · exact w_c11
  · exact w_c12
  · exact w_c13
  · exact w_c14
  · exact w_c15
  · exact w_c16
  · exact w_c17
  · exact w_c18
  · exact w_c19
  · exact w_c20
  · exact w_c21
  · exact w_c22
  · exact w_c23
  · exact w_c24
  · exact w_c25
  · exact w_c26
  · exact w_c27
  · exact w_c28
  · exact w_c29
  · exact w_c30
set_option maxRecDepth 65536 in
theorem w_t1 : (words1.take 24).all (fun c => isCode c || c.before args0 about1) = true := by decide +kernel
set_option maxRecDepth 65536 in
theorem w_t2 : ((words1.drop 24).take 24).all (fun c => isCode c || c.before args0 about1) = true := by decide +kernel
set_option maxRecDepth 65536 in
theorem w_t3 : (((words1.drop 24).drop 24).take 24).all (fun c => isCode c || c.before args0 about1) = true := by decide +kernel
set_option maxRecDepth 65536 in
theorem w_t4 : ((((words1.drop 24).drop 24).drop 24).take 24).all (fun c => isCode c || c.before args0 about1) = true := by decide +kernel
set_option maxRecDepth 65536 in
theorem w_t5 : (((((words1.drop 24).drop 24).drop 24).drop 24).take 24).all (fun c => isCode c || c.before args0 about1) = true := by decide +kernel
set_option maxRecDepth 65536 in
theorem w_t6 : (((((words1.drop 24).drop 24).drop 24).drop 24).drop 24).all (fun c => isCode c || c.before args0 about1) = true := by decide +kernel
theorem w_tables : (allAtoms (Jvm.Cond.code x code maxLocals ret :: tables_1)).before args0 about1 = true := by
  rw [allAtoms_all]
  show words1.all (fun c => c.before args0 about1) = true
  refine all_split ?_ w_codes
  rw [← List.take_append_drop 24 words1, List.all_append, w_t1, ← List.take_append_drop 24 (words1.drop 24), List.all_append, w_t2, ← List.take_append_drop 24 ((words1.drop 24).drop 24), List.all_append, w_t3, ← List.take_append_drop 24 (((words1.drop 24).drop 24).drop 24), List.all_append, w_t4, ← List.take_append_drop 24 ((((words1.drop 24).drop 24).drop 24).drop 24), List.all_append, w_t5, w_t6]
  rfl
set_option maxRecDepth 65536 in
theorem w_rest : rest_1_c.before args0 about1 = true := by decide +kernel
set_option maxRecDepth 65536 in
theorem w_case : (Jvm.Cond.and given_1 narrow_1).before args0 about1 = true := by decide +kernel
set_option maxRecDepth 65536 in
theorem w_consts : constsHeld consts_1 about1 := Jvm.Lit.constsHeldB_iff.mp (by decide +kernel)
theorem w_applies : (headSpec (Jvm.Cond.code x code maxLocals ret :: tables_1) room_1).applies x e0.platform about1 = true :=
  (Spec.applies_iff w_frames).mpr ⟨w_running, w_runnable, w_alone, w_named, w_hears, w_ripe, w_room, w_tables⟩
theorem atStart : AtStart classFile x code maxLocals ret World_1 tables_1 room_1 Calls_1 rest_1 Pre_1 launch0 p0 e0 about1 theMethod args0 below0 :=
  ⟨lists_1, trivial, launch0.admits_env _ _ _, launch0.least_env, fairChoices_fair.cas, fairChoices_fair.clock, w_frames, w_args, w_heap, w_applies, ⟨w_consts, trivial⟩, w_rest, w_case⟩
end start1
theorem witness_1 : WitnessClaimed_1 := ⟨start1.p0, start1.e0, start1.about1, start1.theMethod, start1.args0, start1.below0, start1.atStart⟩
end Jvm.Pilot.@@N@@
