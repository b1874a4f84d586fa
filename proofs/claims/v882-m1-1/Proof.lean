import JvmDerived
import JvmDerived.Pilot.@@N@@Statement
import JvmDerived.Pilot.@@N@@Code
set_option linter.unusedVariables false
set_option linter.unusedSimpArgs false
namespace Jvm.RoadKit
open Sem ClassFile Op Lib Jvm.Stand Jvm.Free Jvm.LawKit
section Own
variable {p : Program} {l : Launch} {e : Env} {R : Room} {s : State} {m : MethodId} {args : Array Value} {below : List Frame} {meth : Method} {c : Code} {T : State} {locs : List Loc} {cells slots : Nat} {Z : State} {a0 : Array Value} {h h' h2 : Heap}
/-- what is left to show of a walk that stands at S -/
def OEnds (p : Program) (e : Env) (below : List Frame) (s : State) (K N : Nat) (Qf : Option Value → Heap → List Loc → Prop) (S : State) : Prop :=
  ∃ s₂ o, Steps p.tables e below S s₂ ∧ s₂.status = .running ∧ Ended s₂ below o ∧ ∃ v L, o = .returned v ∧ Qf v s₂.heap L ∧ FrameEnd s o s₂ L K N
variable {K N : Nat} {Qf : Option Value → Heap → List Loc → Prop}
theorem OEnds.st {S S' : State} (k : ∀ t, Steps p.tables e below S' t → Steps p.tables e below S t) (h : OEnds p e below s K N Qf S') : OEnds p e below s K N Qf S := by
  obtain ⟨s2, o, h1, r⟩ := h
  exact ⟨s2, o, k _ h1, r⟩
theorem OEnds.cast {g g' : JFrame} (q : g = g') (k : OEnds p e below s K N Qf (T.setTop g')) : OEnds p e below s K N Qf (T.setTop g) := q ▸ k
theorem OEnds.ret (X : Stand p l e R s m args below meth c T locs cells slots) (hx : p.tables.exec = Jvm.exec) {pc : Nat} {Ls : Array Slot} {w : Value} {t : FieldType} {i : Instr} {rest : List Value} (hret : meth.sig.returnType = some t) (hlk : meth.locks = false) (hn : narrow t w = w)
    (hi : (i = .ireturn ∧ (t = .int ∨ t = .boolean ∨ t = .byte ∨ t = .char ∨ t = .short) ∧ ∃ z, w = .int z) ∨ (i = .lreturn ∧ t = .long ∧ ∃ z, w = .long z) ∨ (i = .dreturn ∧ t = .double ∧ ∃ z, w = .double z) ∨ (i = .freturn ∧ t = .float ∧ ∃ z, w = .float z) ∨ (i = .areturn ∧ t.isReference = true ∧ w.isRef = true))
    (hd : decode c.code pc = .ok (i, 1)) (hc : cells ≤ K) (hs : slots ≤ N) (q : Qf (some w) T.heap locs) : OEnds p e below s K N Qf (T.setTop (mkF m pc Ls (w :: rest))) := by
  obtain ⟨fs, hr, hrun, hended, hW, hsame⟩ := X.leave (v := some w) (fun h => by rw [hret] at h; cases h) hlk
  exact ⟨_, _, retOut X hx hret hn hi hd hr, hrun, hended, _, _, rfl, q, ⟨_, rfl⟩, hW, hsame.mono hc hs⟩
theorem OEnds.retV (X : Stand p l e R s m args below meth c T locs cells slots) (hx : p.tables.exec = Jvm.exec) {pc : Nat} {Ls : Array Slot} (hret : meth.sig.returnType = none) (hlk : meth.locks = false)
    (hd : decode c.code pc = .ok (.return_, 1)) (hc : cells ≤ K) (hs : slots ≤ N) (q : Qf none T.heap locs) : OEnds p e below s K N Qf (T.setTop (mkF m pc Ls [])) := by
  obtain ⟨fs, hr, hrun, hended, hW, hsame⟩ := X.leave (v := none) (fun _ => rfl) hlk
  exact ⟨_, _, X.returnOut hx hret hd hr, hrun, hended, _, _, rfl, q, ⟨_, rfl⟩, hW, hsame.mono hc hs⟩
/-- a contract -/
def Con (l : Launch) (Z : State) (y : MethodName) (bytes : ByteArray) (maxL : Nat) (ret : Option FieldType) (ws : List Cond) (rm : Room) (as' : Array Value) (h0 : Heap) (Q : Option Value → Heap → List Loc → Prop) : Prop :=
  MetFree l y (head1 (Cond.code y bytes maxL ret :: ws) rm) (fun a U => a = as' ∧ Z.Warmed39 U.vm ∧ U.heap = h0) (fun _ _ _ _ _ => True) (fun _ U o U' => ∃ v L, o = .returned v ∧ Q v U'.heap L ∧ FrameEnd U o U' L rm.cells rm.slots)
variable {y : MethodName} {bytes : ByteArray} {maxL : Nat} {ret : Option FieldType} {ws : List Cond} {rm : Room} {as' : Array Value} {h0 : Heap} {Q : Option Value → Heap → List Loc → Prop}
theorem Con.walk (hpl : plainFor y = true) (body : ∀ (p : Program) (e : Env) (s : State) (m : MethodId) (below : List Frame) (meth : Method) (c : Code) (T : State), Stand p l e rm s m as' below meth c T [] 0 0 → p.tables.exec = Jvm.exec → Z.Warmed39 s.vm → c.code = bytes → c.maxLocals = maxL →
      s.vm.findClass y.cls = some m.cls → meth.name = y.name → meth.sig.returnType = ret → meth.locks = false → T.heap = h0 → OEnds p e below s rm.cells rm.slots Q (T.setTop (entryFrame m as' maxL))) : Con l Z y bytes maxL ret ws rm as' h0 Q := by
  refine MetFree.of_bodySF hpl hisR ?_
  intro p e s m args below meth c s₁ Bd hml0 hP hK
  obtain ⟨rfl, hZ, hh⟩ := hP
  exact body p e s m below meth c s₁ (Stand.of_body Bd) Bd.exec hZ Bd.bytes hml0 (findClass_of_methodNamed Bd.named) (name_of_methodNamed Bd.named Bd.method).1 Bd.returns Bd.notSynchronized (by rw [← hh, Bd.state]; rfl)
/-- who pays a call, in the one form of this text -/
def SB (l : Launch) (R : Room) (p : Program) (e : Env) (below : List Frame) (s : State) (args : Array Value) (y : MethodName) (len W : Nat) (as' : Array Value) (h : Heap) (Q : Option Value → Heap → List Loc → Prop) (kc ks : Nat) : Prop :=
  Back l R p e below s args y len W (fun A a => a = as' ∧ A.U.heap = h ∧ A.cells + kc ≤ R.cells ∧ A.slots + ks ≤ R.slots) (fun A _ v B => ∃ L, Q v B.U.heap L ∧ B.locs = A.locs ++ L ∧ B.cells = A.cells + kc ∧ B.slots = A.slots + ks)
theorem Con.sb {len W : Nat} (hM : Con l Z y bytes maxL ret [] rm as' h Q) (hZ : Z.Warmed39 s.vm) (wc : (Cond.code y bytes maxL ret).before a0 Z = true) (wz : (Cond.initialized y.cls).before a0 Z = true) (hf : rm.frames + 1 ≤ R.frames) (hl : W + (maxL + 11) + rm.locals ≤ R.locals) :
    SB l R p e below s args y len W as' h Q rm.cells rm.slots := backOf hM hZ wc wz hf hl
theorem SB.of {len W kc ks : Nat} (hB : Back l R p e below s args y len W (fun A a => a = as' ∧ A.U.heap = h ∧ A.cells + kc ≤ R.cells ∧ A.slots + ks ≤ R.slots) (fun A _ v B => ∃ L, Q v B.U.heap L ∧ B.locs = A.locs ++ L ∧ B.cells = A.cells + kc ∧ B.slots = A.slots + ks)) : SB l R p e below s args y len W as' h Q kc ks := hB
theorem SB.mono {len W kc ks : Nat} {Q' : Option Value → Heap → List Loc → Prop} (hB : SB l R p e below s args y len W as' h Q kc ks) (f : ∀ v h' L, Q v h' L → Q' v h' L) : SB l R p e below s args y len W as' h Q' kc ks :=
  Back.mono hB (fun _ _ q => q) (fun _ _ _ _ _ ⟨L, q, r⟩ => ⟨L, f _ _ _ q, r⟩)
theorem callC (X : Stand p l e R s m args below meth c T locs cells slots) (hx : p.tables.exec = Jvm.exec) (hZ : Z.Warmed39 s.vm) {own : String} {index : Nat} {y : MethodName} {bytes : ByteArray} {maxL : Nat} {ret : Option FieldType}
    (hown : s.vm.findClass own = some m.cls) (w1 : (Cond.methodLink own index y).before a0 Z = true) (w2 : (Cond.static y).before a0 Z = true) (w3 : (Cond.initialized y.cls).before a0 Z = true)
    (w4 : (Cond.code y bytes maxL ret).before a0 Z = true) (hy : y.cls ≠ "java/lang/invoke/MethodHandle" ∧ y.cls ≠ "java/lang/invoke/VarHandle") {argsL rest : List Value} {W kc ks : Nat} (hK : SB l R p e below s args y 3 W argsL.toArray h Q kc ks) (eT : T.heap = h)
    {g : JFrame} (hg : g.method = m) (hsize : g.locals.size = c.maxLocals) (hlen : ∀ sig, parseMethodDescriptor y.desc = some sig → argsL.length = sig.parameters.length)
    (hstack : g.stack = argsL.reverse ++ rest) (hW : 2 * g.monitorRoom + (rest.map fun v => v.category).sum ≤ W) (hdg : decode c.code g.pc = .ok (.invokestatic index, 3)) (hc : cells + kc ≤ R.cells) (hs : slots + ks ≤ R.slots) :
    ∃ (v : Option Value) (T' : State) (h' : Heap) (L : List Loc), Stand p l e R s m args below meth c T' (locs ++ L) (cells + kc) (slots + ks) ∧ T'.heap = h' ∧ Q v h' L ∧
      ∀ target, Steps p.tables e below (T'.setTop { g with pc := g.pc + 3, stack := v.toList ++ rest }) target → Steps p.tables e below (T.setTop g) target := by
  obtain ⟨v, vm, ⟨T', L', k', n'⟩, -, X', ⟨L, hQ, l1, y1, z1⟩, st⟩ := Jvm.LawKit.callS X hx hown (mvT hZ w1) (mvT hZ w2) (mvT hZ w3) (mvT hZ w4) hy hK hg hsize hlen hstack hW hdg (fun _ _ => ⟨rfl, eT, hc, hs⟩)
  dsimp only [Pt.U, Pt.locs, Pt.cells, Pt.slots] at X' l1 y1 z1 st hQ
  subst l1 y1 z1
  exact ⟨v, T', _, L, X', rfl, hQ, st⟩
theorem specC (X : Stand p l e R s m args below meth c T locs cells slots) (hx : p.tables.exec = Jvm.exec) (hZ : Z.Warmed39 s.vm) {own : String} {index : Nat} {y : MethodName} {bytes : ByteArray} {maxL : Nat} (hy1 : y.name = "<init>")
    (hown : s.vm.findClass own = some m.cls) (w1 : (Cond.methodLink own index y).before a0 Z = true) (w2 : (Cond.instanceMethod y).before a0 Z = true)
    (w4 : (Cond.code y bytes maxL none).before a0 Z = true) (hy : y.cls ≠ "java/lang/invoke/MethodHandle" ∧ y.cls ≠ "java/lang/invoke/VarHandle") {a : Addr} {argsL rest : List Value} {W kc ks : Nat} (hK : SB l R p e below s args y 3 W (.ref a :: argsL).toArray h Q kc ks) (eT : T.heap = h)
    {g : JFrame} (hg : g.method = m) (hsize : g.locals.size = c.maxLocals) (hlen : ∀ sig, parseMethodDescriptor y.desc = some sig → argsL.length = sig.parameters.length)
    (hstack : g.stack = argsL.reverse ++ .ref a :: rest) (hW : 2 * g.monitorRoom + (rest.map fun v => v.category).sum ≤ W) (hdg : decode c.code g.pc = .ok (.invokespecial index, 3)) (hc : cells + kc ≤ R.cells) (hs : slots + ks ≤ R.slots) :
    ∃ (v : Option Value) (T' : State) (h' : Heap) (L : List Loc), Stand p l e R s m args below meth c T' (locs ++ L) (cells + kc) (slots + ks) ∧ T'.heap = h' ∧ Q v h' L ∧
      ∀ target, Steps p.tables e below (T'.setTop { g with pc := g.pc + 3, stack := v.toList ++ rest }) target → Steps p.tables e below (T.setTop g) target := by
  obtain ⟨v, vm, ⟨T', L', k', n'⟩, -, X', ⟨L, hQ, l1, y1, z1⟩, st⟩ := X.specialBack hx hy1 hown (mvT hZ w1) (mvT hZ w2) (mvT hZ w4) hy hK hg hsize (Steps.refl _) hlen hstack hW hdg (fun _ _ => ⟨rfl, eT, hc, hs⟩)
  dsimp only [Pt.U, Pt.locs, Pt.cells, Pt.slots] at X' l1 y1 z1 st hQ
  subst l1 y1 z1
  exact ⟨v, T', _, L, X', rfl, hQ, fun _ k => st.trans k⟩
theorem virtC (X : Stand p l e R s m args below meth c T locs cells slots) (hx : p.tables.exec = Jvm.exec) (hZ : Z.Warmed39 s.vm) {own C : String} {index : Nat} {y z : MethodName}
    (hown : s.vm.findClass own = some m.cls) (w1 : (Cond.methodLink own index y).before a0 Z = true) (w2 : (Cond.declares y).before a0 Z = true) (hnf : NotFace s y) (w3 : (Cond.selects C y z).before a0 Z = true) (w4 : (Cond.instanceMethod z).before a0 Z = true)
    (hy : y.cls ≠ "java/lang/invoke/MethodHandle" ∧ y.cls ≠ "java/lang/invoke/VarHandle") {a : Addr} {argsL rest : List Value} {W kc ks : Nat} (hK : SB l R p e below s args z 3 W (.ref a :: argsL).toArray h Q kc ks) (eT : T.heap = h) (E : Exa Z h a C)
    {g : JFrame} (hg : g.method = m) (hsize : g.locals.size = c.maxLocals) (hlen : ∀ sig, parseMethodDescriptor y.desc = some sig → argsL.length = sig.parameters.length)
    (hstack : g.stack = argsL.reverse ++ .ref a :: rest) (hW : 2 * g.monitorRoom + (rest.map fun v => v.category).sum ≤ W) (hdg : decode c.code g.pc = .ok (.invokevirtual index, 3)) (hc : cells + kc ≤ R.cells) (hs : slots + ks ≤ R.slots) :
    ∃ (v : Option Value) (T' : State) (h' : Heap) (L : List Loc), Stand p l e R s m args below meth c T' (locs ++ L) (cells + kc) (slots + ks) ∧ T'.heap = h' ∧ Q v h' L ∧
      ∀ target, Steps p.tables e below (T'.setTop { g with pc := g.pc + 3, stack := v.toList ++ rest }) target → Steps p.tables e below (T.setTop g) target := by
  obtain ⟨cq, kq, qa, qb, qc⟩ := isOf hZ eT E
  obtain ⟨v, vm, ⟨T', L', k', n'⟩, -, X', ⟨L, hQ, l1, y1, z1⟩, st⟩ := X.virtualBack hx hown (mvT hZ w1) (mvT hZ w2) hnf (mvT hZ w3) (mvT hZ w4) hy hK qa qc hg hsize (Steps.refl _) hlen hstack hW hdg (fun _ _ => ⟨rfl, eT, hc, hs⟩)
  dsimp only [Pt.U, Pt.locs, Pt.cells, Pt.slots] at X' l1 y1 z1 st hQ
  subst l1 y1 z1
  exact ⟨v, T', _, L, X', rfl, hQ, fun _ k => st.trans k⟩
theorem ne_arv {a b : Addr} {C : String} {k : Nat} {kc : ClassId} {ty : FieldType} {z : Int32} {vs : List Value} {d : Value} (F : Exa Z h a C) (wi : (Cond.instantiable C k).before a0 Z = true) (G : Arv Z h b kc ty z vs d) : a ≠ b := by
  obtain ⟨cl, A, -⟩ := G
  exact ne_arr F wi A
theorem ext_refl (h : Heap) : Ext h h := ⟨Nat.le_refl _, fun _ _ q => q⟩
theorem ext_trans (A : Ext h h') (B : Ext h' h2) : Ext h h2 := ⟨Nat.le_trans A.1 B.1, fun a c q => B.2 a c (A.2 a c q)⟩
theorem ext_keep {ws : List Addr} (O : Ext h h') (Kp : Keep h' h2 ws) (q : ∀ x ∈ ws, h.size ≤ x) : Ext h h2 := ⟨Nat.le_trans O.1 Kp.1, fun a c r => Kp.2.1 a c (O.2 a c r) fun z => absurd (Array.getElem?_eq_some_iff.mp r).1 (Nat.not_lt.mpr (q a z))⟩
theorem ext_wr {a : Addr} {sl : Nat} {v : Value} (O : Ext h h') (W : Wr h' h2 a sl v) (q : h.size ≤ a) : Ext h h2 := ext_keep O (Keep.of_wr W) (allS q all0)
theorem fits_isRef {ty : FieldType} {v : Value} (ht : ty.isReference = true) (hv : v.isRef = true) : fits ty v = true := by
  rcases ref_cases hv with rfl | ⟨a, rfl⟩ <;> cases ty <;> first | rfl | cases ht
theorem narrow_isRef {ty : FieldType} {v : Value} (ht : ty.isReference = true) : narrow ty v = v := by cases ty <;> first | rfl | cases ht
theorem nf_sel {C : String} {y' z y : MethodName} {s : State} {args : Array Value} (w : (Cond.selects C y' z).before args s = true) (hz : z.cls = y.cls) : NotFace s y := fun r0 h0 => by
  obtain ⟨c2, r2, m2, q1, q2, q3, q4, kP, hkP, hkPi⟩ := Cond.selects_spec w
  have e1 := findClass_of_methodNamed h0
  have e2 := findClass_of_methodNamed q3
  rw [hz] at e2
  have e3 : m2.cls = r0.cls := Option.some.inj (e2.symm.trans e1)
  exact ⟨kP, e3 ▸ hkP, hkPi⟩
theorem nar_b8 {x : Int32} : nar .byte (x.toInt8.toInt32) = x.toInt8.toInt32 := by simp [nar]
theorem nar_char {x : Int32} (h : ¬ x < 0 ∧ ¬ (255 : Int32) < x) : nar .char x = x := by
  obtain ⟨h1, h2⟩ := h
  rw [Int32.lt_iff_toInt_lt] at h1 h2
  have e0 : (0 : Int32).toInt = 0 := rfl
  have e1 : (255 : Int32).toInt = 255 := rfl
  have q := c_i2c x
  show x.toUInt32.toUInt16.toUInt32.toInt32 = x
  apply Int32.toInt_inj.mp
  omega
theorem i2c255 {x : Int32} : ¬ (x &&& 255).toUInt32.toUInt16.toUInt32.toInt32 < 0 ∧ ¬ (255 : Int32) < (x &&& 255).toUInt32.toUInt16.toUInt32.toInt32 := by
  rw [i2c_mask]
  have q := c_and x 255 (by decide)
  have e0 : (0 : Int32).toInt = 0 := rfl
  have e1 : (255 : Int32).toInt = 255 := rfl
  rw [Int32.lt_iff_toInt_lt, Int32.lt_iff_toInt_lt]
  omega
end Own
end Jvm.RoadKit
namespace Jvm.RoadKit
open Sem ClassFile Op Lib Jvm.Stand Jvm.Free Jvm.LawKit
section Own2
variable {p : Program} {l : Launch} {e : Env} {R : Room} {s : State} {m : MethodId} {args : Array Value} {below : List Frame} {meth : Method} {c : Code} {T : State} {locs : List Loc} {cells slots : Nat} {Z : State} {a0 : Array Value} {h : Heap}
variable {Q : Option Value → Heap → List Loc → Prop}
end Own2
end Jvm.RoadKit
namespace Jvm.RoadKit
open Sem ClassFile Op Lib Bundle Jvm.Stand Jvm.Free Jvm.LawKit
section OwnH
variable {p : Program} {l : Launch} {e : Env} {R : Room} {s : State} {m : MethodId} {args : Array Value} {below : List Frame} {meth : Method} {c : Code} {T : State} {locs : List Loc} {cells slots : Nat} {Z : State} {a0 : Array Value} {h h' h2 : Heap} {EL : List (String × Nat)} {vm0 vm1 : Vm}
/-- what is left to show of a walk that may intern String constants -/
def OEndsH (p : Program) (e : Env) (below : List Frame) (Z : State) (EL : List (String × Nat)) (s : State) (K N : Nat) (Qf : Option Value → Heap → List Loc → Prop) (S : State) : Prop :=
  ∃ s₂ o, Steps p.tables e below S s₂ ∧ s₂.status = .running ∧ Ended s₂ below o ∧ ∃ v L, o = .returned v ∧ Qf v s₂.heap L ∧ CHr Z EL s.vm s.heap s₂.vm s₂.heap ∧ ReturnedEndW s o s₂ L K N
variable {K N : Nat} {Qf : Option Value → Heap → List Loc → Prop}
theorem OEndsH.st {S S' : State} (k : ∀ t, Steps p.tables e below S' t → Steps p.tables e below S t) (h : OEndsH p e below Z EL s K N Qf S') : OEndsH p e below Z EL s K N Qf S := by
  obtain ⟨s2, o, h1, r⟩ := h
  exact ⟨s2, o, k _ h1, r⟩
theorem OEndsH.cast {g g' : JFrame} (q : g = g') (k : OEndsH p e below Z EL s K N Qf (T.setTop g')) : OEndsH p e below Z EL s K N Qf (T.setTop g) := q ▸ k
theorem OEndsH.ret (X : Stand p l e R (s.setVm vm0) m args below meth c T locs cells slots) (hx : p.tables.exec = Jvm.exec) (hZ : Z.Warmed39 vm0) (hEL : EW Z a0 EL) (eT : T.heap = h) {k0 : Nat} (hS : s.Since vm0 k0) (hk : k0 ≤ h.size) (A : CHr Z EL s.vm s.heap vm0 h)
    {pc : Nat} {Ls : Array Slot} {w : Value} {t : FieldType} {i : Instr} {rest : List Value} (hret : meth.sig.returnType = some t) (hlk : meth.locks = false) (hn : narrow t w = w)
    (hi : (i = .ireturn ∧ (t = .int ∨ t = .boolean ∨ t = .byte ∨ t = .char ∨ t = .short) ∧ ∃ z, w = .int z) ∨ (i = .lreturn ∧ t = .long ∧ ∃ z, w = .long z) ∨ (i = .dreturn ∧ t = .double ∧ ∃ z, w = .double z) ∨ (i = .freturn ∧ t = .float ∧ ∃ z, w = .float z) ∨ (i = .areturn ∧ t.isReference = true ∧ w.isRef = true))
    (hd : decode c.code pc = .ok (i, 1)) (hc : cells ≤ K) (hs : slots ≤ N) (q : Qf (some w) h locs) : OEndsH p e below Z EL s K N Qf (T.setTop (mkF m pc Ls (w :: rest))) := by
  obtain ⟨fs, hr, hrun, hended, hW, hsame⟩ := X.leave (v := some w) (fun h => by rw [hret] at h; cases h) hlk
  subst eT
  obtain ⟨q1, q2, q3⟩ := hS.ended hW hk hsame
  have B := A.trans (CHv.at X hZ hEL A.1)
  exact ⟨_, _, retOut X hx hret hn hi hd hr, hrun, hended, _, _, rfl, q, B, ⟨_, rfl⟩, q1, q2, q3.mono hc hs⟩
theorem OEndsH.retV (X : Stand p l e R (s.setVm vm0) m args below meth c T locs cells slots) (hx : p.tables.exec = Jvm.exec) (hZ : Z.Warmed39 vm0) (hEL : EW Z a0 EL) (eT : T.heap = h) {k0 : Nat} (hS : s.Since vm0 k0) (hk : k0 ≤ h.size) (A : CHr Z EL s.vm s.heap vm0 h)
    {pc : Nat} {Ls : Array Slot} (hret : meth.sig.returnType = none) (hlk : meth.locks = false)
    (hd : decode c.code pc = .ok (.return_, 1)) (hc : cells ≤ K) (hs : slots ≤ N) (q : Qf none h locs) : OEndsH p e below Z EL s K N Qf (T.setTop (mkF m pc Ls [])) := by
  obtain ⟨fs, hr, hrun, hended, hW, hsame⟩ := X.leave (v := none) (fun _ => rfl) hlk
  subst eT
  obtain ⟨q1, q2, q3⟩ := hS.ended hW hk hsame
  have B := A.trans (CHv.at X hZ hEL A.1)
  exact ⟨_, _, X.returnOut hx hret hd hr, hrun, hended, _, _, rfl, q, B, ⟨_, rfl⟩, q1, q2, q3.mono hc hs⟩
/-- a contract whose body may intern; ss: the objects that stand ahead of it and that it writes, none of them a constant's -/
def ConH (l : Launch) (Z : State) (EL : List (String × Nat)) (y : MethodName) (bytes : ByteArray) (maxL : Nat) (ret : Option FieldType) (ws : List Cond) (rm : Room) (as' : Array Value) (h0 : Heap) (ss : List Addr) (Q : Option Value → Heap → List Loc → Prop) : Prop :=
  MetFree l y (head1 (Cond.code y bytes maxL ret :: ws) rm) (fun a U => a = as' ∧ Z.Warmed39 U.vm ∧ U.heap = h0 ∧ CHv Z EL U.vm h0 ∧ ∀ x ∈ ss, Safe Z EL U.vm h0 x) (fun _ _ _ _ _ => True) (fun _ U o U' => ∃ v L, o = .returned v ∧ Q v U'.heap L ∧ CHr Z EL U.vm U.heap U'.vm U'.heap ∧ ReturnedEndW U o U' L rm.cells rm.slots)
variable {y : MethodName} {bytes : ByteArray} {maxL : Nat} {ret : Option FieldType} {ws : List Cond} {rm : Room} {as' : Array Value} {h0 : Heap} {ss : List Addr} {Q : Option Value → Heap → List Loc → Prop}
theorem ConH.walk (hpl : plainFor y = true) (body : ∀ (p : Program) (e : Env) (s : State) (vm0 : Vm) (k0 : Nat) (m : MethodId) (below : List Frame) (meth : Method) (c : Code) (T : State), Stand p l e rm (s.setVm vm0) m as' below meth c T [] 0 0 → s.Since vm0 k0 → k0 ≤ h0.size → p.tables.exec = Jvm.exec → Z.Warmed39 vm0 → c.code = bytes → c.maxLocals = maxL →
      vm0.findClass y.cls = some m.cls → meth.name = y.name → meth.sig.returnType = ret → meth.locks = false → T.heap = h0 → CHr Z EL s.vm s.heap vm0 h0 → (∀ x ∈ ss, Safe Z EL vm0 h0 x) → OEndsH p e below Z EL s rm.cells rm.slots Q (T.setTop (entryFrame m as' maxL))) : ConH l Z EL y bytes maxL ret ws rm as' h0 ss Q := by
  refine MetFree.of_bodySF hpl hisR ?_
  intro p e s m args below meth c s₁ Bd hml0 hP hK
  obtain ⟨rfl, hZ, hh, hC, hs⟩ := hP
  have e1 : s₁.heap = h0 := by rw [← hh, Bd.state]; rfl
  exact body p e s s.vm 0 m below meth c s₁ (Stand.of_body Bd) ((State.WarmedH.refl s).since 0) (Nat.zero_le _) Bd.exec hZ Bd.bytes hml0 (findClass_of_methodNamed Bd.named) (name_of_methodNamed Bd.named Bd.method).1 Bd.returns Bd.notSynchronized e1 (by rw [hh]; exact CHr.refl hC) hs
/-- who pays a call that may intern -/
def SBH (l : Launch) (Z : State) (EL : List (String × Nat)) (R : Room) (p : Program) (e : Env) (below : List Frame) (s : State) (vm0 : Vm) (args : Array Value) (y : MethodName) (len W : Nat) (as' : Array Value) (h : Heap) (Q : Option Value → Heap → List Loc → Prop) (kc ks : Nat) : Prop :=
  BackS l R p e below (s.setVm vm0) args y len W (fun A a => a = as' ∧ A.U.heap = h ∧ A.cells + kc ≤ R.cells ∧ A.slots + ks ≤ R.slots) (fun A _ v B => ∃ L, Q v B.U.heap L ∧ B.locs = A.locs ++ L ∧ B.cells = A.cells + kc ∧ B.slots = A.slots + ks ∧ CHr Z EL vm0 h B.U.vm B.U.heap)
theorem ConH.sb {len W : Nat} (hM : ConH l Z EL y bytes maxL ret [] rm as' h ss Q) (hZ : Z.Warmed39 vm0) (wc : (Cond.code y bytes maxL ret).before a0 Z = true) (wz : (Cond.initialized y.cls).before a0 Z = true) (hf : rm.frames + 1 ≤ R.frames) (hl : W + (maxL + 11) + rm.locals ≤ R.locals) (hEL : EW Z a0 EL) (H : CHv Z EL vm0 h) (hss : ∀ x ∈ ss, x < h.size ∧ Safe Z EL vm0 h x) :
    SBH l Z EL R p e below s vm0 args y len W as' h Q rm.cells rm.slots :=
  BackS.of_freeW (bytes := bytes) (maxL := maxL) (ret := ret) (E := fun _ first o t L k n => k = rm.cells ∧ n = rm.slots ∧ (∃ v, o = .returned v ∧ Q v t.heap L) ∧ CHr Z EL first.vm first.heap t.vm t.heap) hM hf hl
    (fun m meth c A a Y hp => have hU : Z.Warmed39 A.U.vm := wtrans (s := s.setVm vm0) hZ Y.warmed
      ⟨by show (Cond.and _ .tt).before a A.U = true; rw [Cond.before_and, mv hU wc]; rfl, mv hU wc, mv hU wz, hp.2.2.1, hp.2.2.2⟩)
    (fun m meth c A a g mk Y hp => ⟨hp.1, wtrans (s := s.setVm vm0) hZ Y.warmed, hp.2.1, (CHv.at Y hZ hEL H).1, fun x hx => (CHv.at Y hZ hEL H).safe (hss x hx).1 (hss x hx).2⟩) (fun _ _ _ _ _ _ _ _ _ => trivial)
    (fun _ _ _ _ ⟨v, L, h1, h2, h3, h4⟩ => ⟨L, _, _, h4, rfl, rfl, ⟨v, h1, h2⟩, h3⟩)
    (fun m meth c A a g mk v t L k n Y hp _ _ ⟨e1, e2, ⟨v', e3, e4⟩, e5⟩ => by
      cases e3; subst e1 e2
      refine ⟨L, e4, rfl, rfl, rfl, (CHv.at Y hZ hEL H).trans ?_⟩
      rw [← hp.2.1]; exact e5)
theorem callH (X : Stand p l e R (s.setVm vm0) m args below meth c T locs cells slots) (hx : p.tables.exec = Jvm.exec) (hZ : Z.Warmed39 vm0) {own : String} {index : Nat} {y : MethodName} {bytes : ByteArray} {maxL : Nat} {ret : Option FieldType}
    (hown : vm0.findClass own = some m.cls) (w1 : (Cond.methodLink own index y).before a0 Z = true) (w2 : (Cond.static y).before a0 Z = true) (w3 : (Cond.initialized y.cls).before a0 Z = true)
    (w4 : (Cond.code y bytes maxL ret).before a0 Z = true) (hy : y.cls ≠ "java/lang/invoke/MethodHandle" ∧ y.cls ≠ "java/lang/invoke/VarHandle") {argsL rest : List Value} {W kc ks : Nat} (hK : SBH l Z EL R p e below s vm0 args y 3 W argsL.toArray h Q kc ks) (eT : T.heap = h) {k0 : Nat} (hS : s.Since vm0 k0) (hk : k0 ≤ h.size)
    {g : JFrame} (hg : g.method = m) (hsize : g.locals.size = c.maxLocals) (hlen : ∀ sig, parseMethodDescriptor y.desc = some sig → argsL.length = sig.parameters.length)
    (hstack : g.stack = argsL.reverse ++ rest) (hW : 2 * g.monitorRoom + (rest.map fun v => v.category).sum ≤ W) (hdg : decode c.code g.pc = .ok (.invokestatic index, 3)) (hc : cells + kc ≤ R.cells) (hs : slots + ks ≤ R.slots) :
    ∃ (v : Option Value) (T' : State) (h' : Heap) (L : List Loc) (vm1 : Vm) (k1 : Nat), Stand p l e R (s.setVm vm1) m args below meth c T' (locs ++ L) (cells + kc) (slots + ks) ∧ T'.heap = h' ∧ Q v h' L ∧ s.Since vm1 k1 ∧ k1 ≤ h'.size ∧ Z.Warmed39 vm1 ∧ vm1.findClass own = some m.cls ∧ CHr Z EL vm0 h vm1 h' ∧
      ∀ target, Steps p.tables e below (T'.setTop { g with pc := g.pc + 3, stack := v.toList ++ rest }) target → Steps p.tables e below (T.setTop g) target := by
  obtain ⟨v, vm, ⟨T', L', k', n'⟩, -, X', hS', hgr, ⟨L, hQ, l1, y1, z1, A⟩, st⟩ := callSS X hx hown (mvT (s := s.setVm vm0) hZ w1) (mvT (s := s.setVm vm0) hZ w2) (mvT (s := s.setVm vm0) hZ w3) (mvT (s := s.setVm vm0) hZ w4) hy hK hg hsize hlen hstack hW hdg (fun _ _ => ⟨rfl, eT, hc, hs⟩)
  dsimp only [Pt.U, Pt.locs, Pt.cells, Pt.slots] at X' l1 y1 z1 st hQ hS' hgr A
  subst l1 y1 z1 eT
  exact ⟨v, T', _, L, T'.vm, _, X', rfl, hQ, hS.trans hS' (Nat.le_trans hk hgr), Nat.le_refl _, State.Warmed39.trans (t := s.setVm vm0) hZ hS'.1, by rw [hS'.1.alike.findClass]; exact hown, A, fun _ k => st.trans k⟩
theorem specH (X : Stand p l e R (s.setVm vm0) m args below meth c T locs cells slots) (hx : p.tables.exec = Jvm.exec) (hZ : Z.Warmed39 vm0) {own : String} {index : Nat} {y : MethodName} {bytes : ByteArray} {maxL : Nat} (hy1 : y.name = "<init>")
    (hown : vm0.findClass own = some m.cls) (w1 : (Cond.methodLink own index y).before a0 Z = true) (w2 : (Cond.instanceMethod y).before a0 Z = true)
    (w4 : (Cond.code y bytes maxL none).before a0 Z = true) (hy : y.cls ≠ "java/lang/invoke/MethodHandle" ∧ y.cls ≠ "java/lang/invoke/VarHandle") {a : Addr} {argsL rest : List Value} {W kc ks : Nat} (hK : SBH l Z EL R p e below s vm0 args y 3 W (.ref a :: argsL).toArray h Q kc ks) (eT : T.heap = h) {k0 : Nat} (hS : s.Since vm0 k0) (hk : k0 ≤ h.size)
    {g : JFrame} (hg : g.method = m) (hsize : g.locals.size = c.maxLocals) (hlen : ∀ sig, parseMethodDescriptor y.desc = some sig → argsL.length = sig.parameters.length)
    (hstack : g.stack = argsL.reverse ++ .ref a :: rest) (hW : 2 * g.monitorRoom + (rest.map fun v => v.category).sum ≤ W) (hdg : decode c.code g.pc = .ok (.invokespecial index, 3)) (hc : cells + kc ≤ R.cells) (hs : slots + ks ≤ R.slots) :
    ∃ (v : Option Value) (T' : State) (h' : Heap) (L : List Loc) (vm1 : Vm) (k1 : Nat), Stand p l e R (s.setVm vm1) m args below meth c T' (locs ++ L) (cells + kc) (slots + ks) ∧ T'.heap = h' ∧ Q v h' L ∧ s.Since vm1 k1 ∧ k1 ≤ h'.size ∧ Z.Warmed39 vm1 ∧ vm1.findClass own = some m.cls ∧ CHr Z EL vm0 h vm1 h' ∧
      ∀ target, Steps p.tables e below (T'.setTop { g with pc := g.pc + 3, stack := v.toList ++ rest }) target → Steps p.tables e below (T.setTop g) target := by
  obtain ⟨v, vm, ⟨T', L', k', n'⟩, -, X', hS', hgr, ⟨L, hQ, l1, y1, z1, A⟩, st⟩ := X.specialBackS hx hy1 hown (mvT (s := s.setVm vm0) hZ w1) (mvT (s := s.setVm vm0) hZ w2) (mvT (s := s.setVm vm0) hZ w4) hy hK hg hsize (Steps.refl _) hlen hstack hW hdg (fun _ _ => ⟨rfl, eT, hc, hs⟩)
  dsimp only [Pt.U, Pt.locs, Pt.cells, Pt.slots] at X' l1 y1 z1 st hQ hS' hgr A
  subst l1 y1 z1 eT
  exact ⟨v, T', _, L, T'.vm, _, X', rfl, hQ, hS.trans hS' (Nat.le_trans hk hgr), Nat.le_refl _, State.Warmed39.trans (t := s.setVm vm0) hZ hS'.1, by rw [hS'.1.alike.findClass]; exact hown, A, fun _ k => st.trans k⟩
end OwnH
end Jvm.RoadKit
namespace Jvm.RoadKit
open Sem ClassFile Op Lib Bundle Jvm.Stand Jvm.Free Jvm.LawKit Jvm.Free.Exc
section OwnK
variable {p : Program} {l : Launch} {e : Env} {R : Room} {s : State} {m : MethodId} {args : Array Value} {below : List Frame} {meth : Method} {c : Code} {T : State} {locs : List Loc} {cells slots : Nat} {Z : State} {a0 : Array Value} {h h' h2 : Heap} {EL : List (String × Nat)} {vm0 vm1 : Vm}
variable {y : MethodName} {bytes : ByteArray} {maxL : Nat} {ret : Option FieldType} {ws : List Cond} {rm : Room} {as' : Array Value} {h0 : Heap} {ss : List Addr} {Q : Option Value → Heap → List Loc → Prop}
/-- a contract whose body fills in a stack trace -/
def ConK (l : Launch) (Z : State) (y : MethodName) (bytes : ByteArray) (maxL : Nat) (ret : Option FieldType) (ws : List Cond) (rm : Room) (as' : Array Value) (h0 : Heap) (Q : Option Value → Heap → List Loc → Prop) : Prop :=
  MetFree l y (head1 (Cond.code y bytes maxL ret :: ws) rm) (fun a U => a = as' ∧ Z.Warmed39 U.vm ∧ U.heap = h0) (fun _ _ bl s _ => s.vm.MethodsKnown ∧ s.vm.FramesKnown bl) (fun _ U o U' => ∃ v L, o = .returned v ∧ Q v U'.heap L ∧ FrameEnd U o U' L rm.cells rm.slots)
theorem ConK.walk (hpl : plainFor y = true) (body : ∀ (p : Program) (e : Env) (s : State) (m : MethodId) (below : List Frame) (meth : Method) (c : Code) (T : State), Stand p l e rm s m as' below meth c T [] 0 0 → p.tables.exec = Jvm.exec → Z.Warmed39 s.vm → c.code = bytes → c.maxLocals = maxL →
      s.vm.findClass y.cls = some m.cls → meth.name = y.name → meth.sig.returnType = ret → meth.locks = false → T.heap = h0 → s.vm.MethodsKnown → s.vm.FramesKnown below → s.heap = h0 → OEnds p e below s rm.cells rm.slots Q (T.setTop (entryFrame m as' maxL))) : ConK l Z y bytes maxL ret ws rm as' h0 Q := by
  refine MetFree.of_bodySF hpl hisR ?_
  intro p e s m args below meth c s₁ Bd hml0 hP hK
  obtain ⟨rfl, hZ, hh⟩ := hP
  exact body p e s m below meth c s₁ (Stand.of_body Bd) Bd.exec hZ Bd.bytes hml0 (findClass_of_methodNamed Bd.named) (name_of_methodNamed Bd.named Bd.method).1 Bd.returns Bd.notSynchronized (by rw [← hh, Bd.state]; rfl) hK.1 hK.2 hh
theorem ConK.sb {len W : Nat} (hM : ConK l Z y bytes maxL ret [] rm as' h Q) (hZ : Z.Warmed39 s.vm) (wc : (Cond.code y bytes maxL ret).before a0 Z = true) (wz : (Cond.initialized y.cls).before a0 Z = true) (hf : rm.frames + 1 ≤ R.frames) (hl : W + (maxL + 11) + rm.locals ≤ R.locals) (hTK : s.vm.MethodsKnown) (hBelow : s.vm.FramesKnown below) :
    SB l R p e below s args y len W as' h Q rm.cells rm.slots := backOfKL hM hZ wc wz hf hl hTK hBelow
/-- one that may intern too (the law's own) -/
def ConHK (l : Launch) (Z : State) (EL : List (String × Nat)) (y : MethodName) (bytes : ByteArray) (maxL : Nat) (ret : Option FieldType) (ws : List Cond) (rm : Room) (as' : Array Value) (h0 : Heap) (ss : List Addr) (Q : Option Value → Heap → List Loc → Prop) : Prop :=
  MetFree l y (head1 (Cond.code y bytes maxL ret :: ws) rm) (fun a U => a = as' ∧ Z.Warmed39 U.vm ∧ U.heap = h0 ∧ CHv Z EL U.vm h0 ∧ ∀ x ∈ ss, Safe Z EL U.vm h0 x) (fun _ _ bl s _ => s.vm.MethodsKnown ∧ s.vm.FramesKnown bl) (fun _ U o U' => ∃ v L, o = .returned v ∧ Q v U'.heap L ∧ CHr Z EL U.vm U.heap U'.vm U'.heap ∧ ReturnedEndW U o U' L rm.cells rm.slots)
theorem ConHK.walk (hpl : plainFor y = true) (body : ∀ (p : Program) (e : Env) (s : State) (vm0 : Vm) (k0 : Nat) (m : MethodId) (below : List Frame) (meth : Method) (c : Code) (T : State), Stand p l e rm (s.setVm vm0) m as' below meth c T [] 0 0 → s.Since vm0 k0 → k0 ≤ h0.size → p.tables.exec = Jvm.exec → Z.Warmed39 vm0 → c.code = bytes → c.maxLocals = maxL →
      vm0.findClass y.cls = some m.cls → meth.name = y.name → meth.sig.returnType = ret → meth.locks = false → T.heap = h0 → CHr Z EL s.vm s.heap vm0 h0 → (∀ x ∈ ss, Safe Z EL vm0 h0 x) → s.vm.MethodsKnown → s.vm.FramesKnown below → s.heap = h0 → OEndsH p e below Z EL s rm.cells rm.slots Q (T.setTop (entryFrame m as' maxL))) : ConHK l Z EL y bytes maxL ret ws rm as' h0 ss Q := by
  refine MetFree.of_bodySF hpl hisR ?_
  intro p e s m args below meth c s₁ Bd hml0 hP hK
  obtain ⟨rfl, hZ, hh, hC, hs⟩ := hP
  have e1 : s₁.heap = h0 := by rw [← hh, Bd.state]; rfl
  exact body p e s s.vm 0 m below meth c s₁ (Stand.of_body Bd) ((State.WarmedH.refl s).since 0) (Nat.zero_le _) Bd.exec hZ Bd.bytes hml0 (findClass_of_methodNamed Bd.named) (name_of_methodNamed Bd.named Bd.method).1 Bd.returns Bd.notSynchronized e1 (by rw [hh]; exact CHr.refl hC) hs hK.1 hK.2 hh
theorem mk_of {s : State} (w : (s.vm.classes.all fun k => match k.cf with | some cf => k.methods.size == cf.methods.size | none => true) = true) : s.vm.MethodsKnown := fun m x hx => by
  unfold Vm.method? at hx
  cases hk : s.vm.classes[m.cls]? with
  | none => simp [hk] at hx
  | some k =>
    simp [hk] at hx
    refine ⟨k, hk, fun cf hcf => ?_⟩
    have q := Array.all_eq_true_iff_forall_mem.mp w k (Array.mem_of_getElem? hk)
    simp only [hcf, beq_iff_eq] at q
    have := (Array.getElem?_eq_some_iff.mp hx).1
    simp; omega
theorem fk_of {s : State} {bl : List Frame} {f0 : Frame} (hf : s.frames = f0 :: bl) (w : (s.frames.all fun f => match f with | Frame.java g => (match s.vm.classes[g.method.cls]? with | some k => (match k.cf with | some cf => (cf.methods[g.method.idx]?).isSome | none => true) | none => false) | Frame.native n => (match s.vm.classes[n.method.cls]? with | some k => (match k.cf with | some cf => (cf.methods[n.method.idx]?).isSome | none => true) | none => false) | _ => true) = true) : s.vm.FramesKnown bl := fun y hy m' hm' => by
  have q := List.all_eq_true.mp w y (by rw [hf]; exact List.mem_cons_of_mem _ hy)
  have key : ∀ m : MethodId, (match s.vm.classes[m.cls]? with | some k => (match k.cf with | some cf => (cf.methods[m.idx]?).isSome | none => true) | none => false) = true → s.vm.knowsMethod m := fun m q => by
    cases hk : s.vm.classes[m.cls]? with
    | none => simp [hk] at q
    | some k => exact ⟨k, hk, fun cf hcf => by simpa [hk, hcf] using q⟩
  cases y <;> simp only [frameMethod?] at hm' <;> cases hm' <;> exact key _ q
end OwnK
end Jvm.RoadKit
namespace Jvm.RoadKit
open Sem ClassFile Op Lib Bundle Jvm.Stand Jvm.Free Jvm.LawKit Jvm.Free.Exc
section OwnF
variable {p : Program} {l : Launch} {e : Env} {R : Room} {s : State} {m : MethodId} {args : Array Value} {below : List Frame} {meth : Method} {c : Code} {T : State} {locs : List Loc} {cells slots : Nat} {Z : State} {a0 : Array Value} {h h' : Heap}
/-- what is asked of the tables for Throwable.fillInStackTrace() of an rc (Throwable's own layout of suppressedExceptions is not) -/
def fillW (rc : String) : List Cond := [
  .initialized tN, .superclass tN "java/lang/Object", .instanceMethod tFill, .codeSync tFill LibCode.Throwable.Fill.code 1 (some (.object tN)), .instanceMethod tFill0, .native tFill0,
  .instanceMethod oInit, .code oInit ⟨#[0xb1]⟩ 1 none, .methodLink tN 1 oInit, .methodLink tN 27 tFill, .methodLink tN 202 tFill0,
  .fieldLink tN 7 tN "cause" thD, .lays rc tN "cause" thD, .fieldLink tN 17 tN "stackTrace" steD, .lays rc tN "stackTrace" steD,
  .fieldLink tN 24 tN "suppressedExceptions" listD, .lays rc tN "suppressedExceptions" listD, .fieldLink tN 13 tN "UNASSIGNED_STACK" steD, .laysStatic tN "UNASSIGNED_STACK" steD,
  .fieldLink tN 20 tN "SUPPRESSED_SENTINEL" listD, .laysStatic tN "SUPPRESSED_SENTINEL" listD, .lays rc tN "detailMessage" msgD,
  .selects rc tFill0 tFill0, .fieldLink tN 198 tN "backtrace" obD, .lays rc tN "backtrace" obD, .arrayOver (.object "java/lang/Object"), .soleField tN "backtrace", .soleField tN "depth", .lays rc tN "depth" "I"]
theorem fillW_ok {rc : String} : (fillW rc).all xOk = true := rfl
/-- two of a class's fields lie apart -/
theorem lays_apart {s : State} {args : Array Value} {K C n d n' d' : String} {c : ClassId} {k : Class} {i i' : Nat} {f f' : Field} (w : (Cond.lays K C n d).before args s = true) (w' : (Cond.lays K C n' d').before args s = true)
    (hf : s.fieldFound? C n d = some (c, k, i, f)) (hf' : s.fieldFound? C n' d' = some (c, k, i', f')) (hn : f.name ≠ f'.name) : f.slot ≠ f'.slot := by
  obtain ⟨_, _, _, _, _, g, hc1, _, hg, _, _, _, _, D, hD, _, hDn, _⟩ := Cond.lays_spec w
  obtain ⟨_, _, _, _, _, g', hc2, _, hg', _, _, _, _, D', hD', _, hDn', _⟩ := Cond.lays_spec w'
  cases Option.some.inj (hf.symm.trans hg)
  cases Option.some.inj (hf'.symm.trans hg')
  cases Option.some.inj (hc1.symm.trans hc2)
  intro q
  rw [q] at hD
  cases Option.some.inj (hD.symm.trans hD')
  exact hn (hDn.symm.trans hDn')
/-- Throwable's tables, gathered of those words -/
theorem own_links {s : State} {args : Array Value} {pl : Platform} {rc : String} (howns : pl.frameOwnsMonitors = true) (hfin : pl.finalization = false) (hpl : pl.magicAccessors = ({} : Platform).magicAccessors) (w : ∀ d ∈ fillW rc, d.before args s = true) :
    ∃ T : ThrowableC, T.Links pl s ∧ s.vm.findClass tN = some T.cT ∧ s.methodNamed? tFill = some T.fill ∧ s.methodNamed? tFill0 = some T.fill0 ∧ s.fieldFound? tN "stackTrace" steD = some (T.cT, T.kT, T.i17, T.fStack) ∧ s.fieldFound? tN "UNASSIGNED_STACK" steD = some (T.cT, T.kT, T.i13, T.fUnassigned) ∧
      (∃ cell, s.heap[T.aS]? = some cell ∧ cell.vm.isStatics = true) := by
  have W : ∀ (i : Nat) (d : Cond), (fillW rc)[i]? = some d → d.before args s = true := fun i d q => w d (List.mem_of_getElem? q)
  obtain ⟨⟨cT, j0⟩, M0, n0, m0, nat0, code0, lock0, sig0⟩ := Cond.native_spec (W 5 _ rfl)
  have fc : s.vm.findClass tN = some cT := findClass_of_methodNamed n0
  obtain ⟨kT, hk, hname⟩ := Vm.findClass_spec fc
  obtain ⟨_, k', _, _, q1, _, _, _, _, hni⟩ := Cond.superclass_spec fc (W 1 _ rfl)
  cases Option.some.inj (hk.symm.trans q1)
  obtain ⟨jF, MF, nF, mF, atF, stF, abF, _, _⟩ := Cond.ownMethod (x := tFill) fc hk (W 2 _ rfl)
  obtain ⟨MF', CF, mF', codeF, bytesF, locF, retF, lockF, _, sigF⟩ := Cond.codeSync_spec nF (W 3 _ rfl)
  cases Option.some.inj (mF.symm.trans mF')
  obtain ⟨j0', M0', n0', m0', at0, st0, ab0, nm0, ds0⟩ := Cond.ownMethod (x := tFill0) fc hk (W 4 _ rfl)
  cases Option.some.inj (n0.symm.trans n0')
  cases Option.some.inj (m0.symm.trans m0')
  obtain ⟨mO, MO, nO, hMO, stO, abO⟩ := Cond.instanceMethod_spec (W 6 _ rfl)
  obtain ⟨MO', CO, hMO', codeO, bytesO, _, _, lockO, _, sigO⟩ := Cond.code_spec nO (W 7 _ rfl)
  cases Option.some.inj (hMO.symm.trans hMO')
  obtain ⟨kO, hkO, nameO⟩ := Vm.findClass_spec (findClass_of_methodNamed nO)
  obtain ⟨nmO, dsO⟩ := name_of_methodNamed nO hMO
  obtain ⟨a1, b1, cf, l1, r1, hcf, p1⟩ := Cond.linkedMethod fc hk nO (W 8 _ rfl) pl hpl
  obtain ⟨a27, b27, cf2, l27, r27, hcf2, p27⟩ := Cond.linkedMethod fc hk nF (W 9 _ rfl) pl hpl
  cases Option.some.inj (hcf.symm.trans hcf2)
  obtain ⟨a202, b202, cf3, l202, r202, hcf3, p202⟩ := Cond.linkedMethod fc hk n0 (W 10 _ rfl) pl hpl
  cases Option.some.inj (hcf.symm.trans hcf3)
  obtain ⟨a7, i7, f7, l7, r7, at7, s7, fi7, _, _, _⟩ := Cond.ownField (t := .object tN) fc hk (by decide +kernel) (W 11 _ rfl) (W 12 _ rfl) pl hpl
  obtain ⟨a17, i17, f17, l17, r17, at17, s17, fi17, nm17, _, ff17⟩ := Cond.ownField (t := .array (.object "java/lang/StackTraceElement")) fc hk (by decide +kernel) (W 13 _ rfl) (W 14 _ rfl) pl hpl
  obtain ⟨a24, i24, f24, l24, r24, at24, s24, fi24, nm24, _, ff24⟩ := Cond.ownField (t := .object "java/util/List") fc hk (by decide +kernel) (W 15 _ rfl) (W 16 _ rfl) pl hpl
  obtain ⟨a13, i13, f13, aS, cellS, l13, r13, at13, s13, _, _, hsta, hcS, hisS, _, _, ff13⟩ := Cond.ownStatic (t := .array (.object "java/lang/StackTraceElement")) fc hk (by decide +kernel) (W 17 _ rfl) (W 18 _ rfl) pl hpl
  obtain ⟨a20, i20, f20, _, _, l20, r20, at20, s20, _, _, _, _, _, _, _, _⟩ := Cond.ownStatic (t := .object "java/util/List") fc hk (by decide +kernel) (W 19 _ rfl) (W 20 _ rfl) pl hpl
  obtain ⟨_, _, _, _, _, fM, _, _, _, sM, fiM, _⟩ := Cond.lays_spec (W 21 _ rfl)
  have hap := lays_apart (W 14 _ rfl) (W 16 _ rfl) ff17 ff24 (by rw [nm17, nm24]; decide)
  have pF : MF.sig.parameters = [] := by
    have q : (parseMethodDescriptor tFill.desc).map (·.parameters) = some [] := by decide +kernel
    rw [sigF] at q; simpa using q
  have p0 : M0.sig.parameters = [.int] := by
    have q : (parseMethodDescriptor tFill0.desc).map (·.parameters) = some [.int] := by decide +kernel
    rw [sig0] at q; simpa using q
  have pO : MO.sig.parameters = [] := by
    have q : (parseMethodDescriptor oInit.desc).map (·.parameters) = some [] := by decide +kernel
    rw [sigO] at q; simpa using q
  let T : ThrowableC := { cT := cT, kT := kT, cO := cT, aS := aS, fillIdx := jF, fill0Idx := j0, initSIdx := jF, obj := mO, kObj := kO, methFill := MF, methFill0 := M0, methInitS := MF, methObj := MO, codeFill := CF, codeInitS := CF, codeObj := CO, fBack := f7, fDepth := f7, fStack := f17, fCause := f7, fSupp := f24, fMsg := fM, fUnassigned := f13, fSentinel := f20, cfT := cf, ci1 := a1, n1 := b1, ci27 := a27, n27 := b27, ci202 := a202, n202 := b202, ci7 := a7, i7 := i7, ci13 := a13, i13 := i13, ci17 := a17, i17 := i17, ci20 := a20, i20 := i20, ci24 := a24, i24 := i24 }
  refine ⟨T, ?_, fc, nF, n0, ff17, ff13, cellS, hcS, hisS⟩
  constructor
  case owns => exact howns
  case noFinalization => exact hfin
  case cls => exact hk
  case name => exact hname
  case boot => exact Vm.findClass_boot fc hk
  case notInterface => exact hni
  case initialized => exact Cond.initialized_spec fc hk (W 0 _ rfl)
  case objFound => show lookupSpecial s.vm mO.cls "<init>" MO.desc = .method mO; rw [dsO]; exact lookupSpecial_of_named nO hMO stO
  case objParams => show MO.sig.parameters.length = 0; rw [pO]; rfl
  all_goals assumption
/-- **fillInStackTrace() of a new rc, at its call in Throwable's own constructor** -/
theorem fillC (X : Stand p l e R s m args below meth c T locs cells slots) (hx : p.tables.exec = Jvm.exec) (hl : l.stackTraces = true) (hZ : Z.Warmed39 s.vm) {rc : String} {n : Nat} (hown : s.vm.findClass tN = some m.cls) (w : ∀ d ∈ fillW rc, d.before a0 Z = true)
    (wd : (Cond.declares tFill).before a0 Z = true) (wsel : (Cond.selects rc tFill tFill).before a0 Z = true) (wi : (Cond.instantiable rc n).before a0 Z = true) (hT0 : ThS Z s.heap) (hTK : s.vm.MethodsKnown) (hBelow : s.vm.FramesKnown below) (eT : T.heap = h)
    {a : Addr} (E : Exa Z h a rc) (N : Unt h a) (B : Fld Z h a tN "backtrace" obD .null) {u : Value} (hu : u.isRef = true) (FS : Fld Z h a tN "stackTrace" steD u) (SU : Sta Z h tN "UNASSIGNED_STACK" steD u)
    {g : JFrame} (hg : g.method = m) (hsize : g.locals.size = c.maxLocals) {rest : List Value} (hs : g.stack = .ref a :: rest) (hd : decode c.code g.pc = .ok (.invokevirtual 27, 3)) (hf : 2 < R.frames) {W : Nat} (hW : 2 * g.monitorRoom + (rest.map fun v => v.category).sum ≤ W) (hlo : W + 42 ≤ R.locals) (hc : cells + 1 ≤ R.cells) (hsl : slots + 2752 ≤ R.slots) :
    ∃ (T' : State) (h' : Heap) (L : List Loc), Stand p l e R s m args below meth c T' (locs ++ L) (cells + 1) (slots + 2752) ∧ T'.heap = h' ∧ (∀ x ∈ L, x.base = a) ∧ (∃ C : Cell, h'[a]? = some C ∧ C.vm ≠ .unknown) ∧
      ∀ target, Steps p.tables e below (T'.setTop { g with pc := g.pc + 3, stack := .ref a :: rest }) target → Steps p.tables e below (T.setTop g) target := by
  have htr : e.platform.stackTraces = true := by rw [X.admits.platform]; exact hl
  have howns : e.platform.frameOwnsMonitors = true := by rw [X.admits.platform]
  have hfin : e.platform.finalization = false := by rw [X.admits.platform]
  have hpl : e.platform.magicAccessors = ({} : Platform).magicAccessors := by rw [X.admits.platform]
  have ws : ∀ (i : Nat) (d : Cond), (fillW rc)[i]? = some d → d.before args s = true := fun i d q => mvX hT0 hZ (List.all_eq_true.mp fillW_ok d (List.mem_of_getElem? q)) (w d (List.mem_of_getElem? q))
  obtain ⟨K, L, fT, nF, n0, ff17, ff13, -⟩ := own_links howns hfin hpl (fun d hd => mvX (args := args) hT0 hZ (List.all_eq_true.mp fillW_ok d hd) (w d hd))
  obtain ⟨cq, kq, qa, qb, qc⟩ := isOf hZ eT E
  obtain ⟨cell, kz, e1, e2, e3, e4, e5⟩ := E
  obtain ⟨cell', u1, u2, u3⟩ := N
  cases Option.some.inj (e1.symm.trans u1)
  have hfound : s.vm.findClass rc = some cell.cls := by rw [hZ.alike.findClass]; exact e2
  obtain ⟨kX, hk, ek⟩ := hZ.alike.2.2 _ _ e3
  obtain ⟨t2, k2, g1, g2, g3, -⟩ := Cond.instantiable_spec wi
  cases Option.some.inj (e2.symm.trans g1)
  cases Option.some.inj (e3.symm.trans g2)
  have hord : kX.kind = .ordinary := by rw [ek]; exact g3
  have hsz : cell.slots.size = kX.instanceTypes.size := by rw [ek]; exact e5 g3
  have tk : ∀ {f : Field} {v : Value}, kX.instanceTypes[f.slot]? = some f.type → fits f.type v = true → Jvm.Takes s cell f v := fun {f v} h1 h2 => by
    obtain ⟨q1, q2⟩ := Takes.of_laid (v := v) hk hord h1 h2
    exact ⟨by rw [hsz]; simpa using q1, by rw [u2]; exact q2⟩
  obtain ⟨tyS, -⟩ := Cond.laysAt hfound hk ff17 (ws 14 _ rfl)
  obtain ⟨ci, ib, fB, kb, gb, ab, sB, -, nB, tB, ffB⟩ := Cond.ownField (t := .object "java/lang/Object") fT L.cls (by decide +kernel) (ws 23 _ rfl) (ws 24 _ rfl) e.platform hpl
  obtain ⟨tyB, -⟩ := Cond.laysAt hfound hk ffB (ws 24 _ rfl)
  obtain ⟨_, _, cD, kD, iD, fD, _, _, ffD, sD, _, _⟩ := Cond.lays_spec (ws 28 _ rfl)
  cases Option.some.inj ((Cond.lays_declared (ws 28 _ rfl) ffD).symm.trans fT)
  obtain ⟨hkD, atD⟩ := State.fieldFound?_spec ffD
  cases Option.some.inj (hkD.symm.trans L.cls)
  obtain ⟨nD, tD⟩ := State.fieldFound?_type ffD (t := .int) (by decide +kernel)
  obtain ⟨tyD, -⟩ := Cond.laysAt hfound hk ffD (ws 28 _ rfl)
  have hfb := Cond.soleField_find fT L.cls (ws 26 _ rfl) ab nB sB
  have hfd := Cond.soleField_find fT L.cls (ws 27 _ rfl) atD nD sD
  obtain ⟨comp, cO, kO, -, -, hkO, hkindO, hO⟩ := Cond.arrayOver_spec (ws 25 _ rfl)
  have tS : K.fStack.type = .array (.object "java/lang/StackTraceElement") := (State.fieldFound?_type ff17 (by decide +kernel)).2
  have slB : cell.slots[fB.slot]? = some .null := by
    obtain ⟨cB, _, _, _, f, b1, b2, -, -, -, -, b7⟩ := B
    cases Option.some.inj (b1.symm.trans e1)
    obtain ⟨_, _, _, q⟩ := Jvm.Free.BdW.found_ride (U := s) (U' := Z) hZ.alike.symm ⟨_, _, _, ffB⟩
    cases Option.some.inj (b2.symm.trans q)
    exact b7
  have slS : cell.slots[K.fStack.slot]? = some u := by
    obtain ⟨cB, _, _, _, f, b1, b2, -, -, -, -, b7⟩ := FS
    cases Option.some.inj (b1.symm.trans e1)
    obtain ⟨_, _, _, q⟩ := Jvm.Free.BdW.found_ride (U := s) (U' := Z) hZ.alike.symm ⟨_, _, _, ff17⟩
    cases Option.some.inj (b2.symm.trans q)
    exact b7
  obtain ⟨cU, iU, kU, fU, st, cellS, q1, q2, q3, q4, q5, q6, q7⟩ := SU
  obtain ⟨kU', q1', ekU⟩ := State.fieldFound?_setVm hZ.alike q1
  cases Option.some.inj (ff13.symm.trans q1')
  have est : K.aS = st := Option.some.inj (L.statics.symm.trans (by rw [ekU]; exact q4))
  have hneS : K.aS ≠ a := fun q => by
    rw [est] at q
    rw [q, e1] at q5
    cases Option.some.inj q5
    rw [u2] at q6; cases q6
  have hsel0 : selectMethod e.platform s.vm cell.cls K.fill0 = .method K.fill0 := by
    obtain ⟨c2, r2, m2, z1, z2, z3, z4, -⟩ := Cond.selects_spec (ws 22 _ rfl)
    cases Option.some.inj (z1.symm.trans hfound)
    cases Option.some.inj (z2.symm.trans (State.methodFound?_of_named n0 (by decide)))
    cases Option.some.inj (z3.symm.trans n0)
    rw [Launch.admits_selectMethod X.admits]; exact z4
  have hK := fillPaysAny (l := l) (R := R) (below := below) (sargs := args) (len := 3) (W := W) hx htr K L nF (u0 := ⟨u, hu⟩) (self := a) (cell := cell) (cellS := cellS) (by rw [u2]; simp) (by rw [u2]; simp) (by rw [u3]) (by rw [u3]) slS hsel0 hneS (by intro q; rw [q] at q6; cases q6) q7
    (tk tyS (by rw [tS]; exact fits_refV_array _ ⟨u, hu⟩)) ⟨⟨ci, ib, fB⟩, ⟨kb, gb, ab, sB⟩, slB⟩ hTK hBelow fT hO hkO hkindO hfb hfd (fun x => tk tyB (by rw [tB]; rfl)) (fun x => tk tyD (by rw [tD]; rfl)) hf hlo
  obtain ⟨v, vm, ⟨T', L', k', n'⟩, -, X', ⟨hv, C, nn, hnn, hC, -, hCv, -, -, l1, y1, z1⟩, stp⟩ := X.virtualBack hx hown (mvT hZ (w _ (List.mem_of_getElem? (i := 9) rfl))) (mvT hZ wd) (nf_sel (args := #[]) (mvT hZ wsel) rfl) (mvT hZ wsel) (mvT hZ (w _ (List.mem_of_getElem? (i := 2) rfl))) (by decide) hK qa qc hg hsize (Steps.refl _) (argsL := []) (rest := rest) (lenOf (by decide +kernel : parseMethodDescriptor tFill.desc = some ⟨[], some (.object tN)⟩) rfl) hs hW hd
    (fun _ _ => ⟨rfl, hc, hsl, by show T.heap[a]? = _; rw [eT]; exact e1, by show T.heap[K.aS]? = _; rw [eT, est]; exact q5⟩)
  dsimp only [Pt.U, Pt.locs, Pt.cells, Pt.slots] at X' l1 y1 z1 stp hC
  subst hv l1 y1 z1
  refine ⟨T', _, _, X'.more (Nat.le_refl _) (Nat.add_le_add_left hnn _), rfl, ?_, ⟨C, hC, by rw [hCv, u2]; simp⟩, fun _ k => stp.trans k⟩
  intro x hx
  simp only [List.mem_cons, List.not_mem_nil, or_false] at hx
  rcases hx with rfl | rfl | rfl <;> rfl
/-- the places written, all of one object -/
def Ba (a : Addr) (L : List Loc) : Prop := ∀ x ∈ L, x.base = a
theorem Ba.nil {a : Addr} : Ba a [] := fun _ q => nomatch q
theorem Ba.snoc {a : Addr} {sl : Nat} (X : Stand p l e R s m args below meth c T (locs ++ [⟨a, sl⟩]) cells slots) (N : Ba a locs) : Ba a (locs ++ [⟨a, sl⟩]) := fun x q => by
  rcases List.mem_append.mp q with q | q
  · exact N x q
  · rw [List.mem_singleton.mp q]
theorem Ba.app {a : Addr} {L L' : List Loc} (N : Ba a L) (N' : Ba a L') : Ba a (L ++ L') := fun x q => (List.mem_append.mp q).elim (N x) (N' x)
theorem keep_same {a : Addr} {h0 : Heap} (X : Stand p l e R s m args below meth c T locs cells slots) (hh : s.heap = h0) (N : Ba a locs) (eT : T.heap = h) : Keep h0 h [a] := by
  subst hh eT
  obtain ⟨-, q1, -, -, -, q⟩ := X.same
  refine ⟨q1, fun x c hc hx => ?_, fun x c hc => ?_⟩
  · exact State.sameButNew.kept_off X.same (fun i hi => hx (by have := N _ hi; simp only at this; rw [this]; exact List.mem_singleton.mpr rfl)) hc
  · obtain ⟨c', r1, r2, r3, -⟩ := q x c hc
    exact ⟨c', r1, by rw [r2], by rw [r2], r3⟩
theorem unt_wr {a b : Addr} {sl : Nat} {v : Value} (W : Wr h h' b sl v) (U : Unt h a) : Unt h' a := by
  obtain ⟨cell, h1, h2, h3, rfl⟩ := W
  obtain ⟨c2, u1, u2, u3⟩ := U
  by_cases q : b = a
  · subst q
    cases Option.some.inj (u1.symm.trans h1)
    exact ⟨cell.setSlot sl v, by rw [Array.getElem?_setIfInBounds_self_of_lt (Array.getElem?_eq_some_iff.mp h1).1], u2, u3⟩
  · exact ⟨c2, by rw [Array.getElem?_setIfInBounds_ne q]; exact u1, u2, u3⟩
theorem kn_keep {a : Addr} {ws : List Addr} (K : Keep h h' ws) (U : Unt h a) : ∃ C : Cell, h'[a]? = some C ∧ C.vm ≠ .unknown := by
  obtain ⟨c2, u1, u2, -⟩ := U
  obtain ⟨c', q1, -, q3, -⟩ := K.2.2 a c2 u1
  exact ⟨c', q1, by rw [q3, u2]; simp⟩
end OwnF
end Jvm.RoadKit
/- laws to paste: Road.backV (cut by pick.py; bodies as the Statement names them) -/
namespace Jvm.Pilot.@@N@@
namespace StrChars
open Jvm Sem ClassFile Op Lib Jvm.Stand Jvm.Free.XT Jvm.Free.ALB Jvm.Free.JM Jvm.Free
open Jvm.Lib.Cold (StaticIs)
/-- a char array whose places are chars -/
def Ch (a : Addr) (A : Cell) (U : State) : Prop := Arr .char a A U ∧ Typed .char A
theorem Ch.mv {a : Addr} {A : Cell} {U U' : State} (h : Ch a A U) (hal : U.vm.Alike U'.vm) (hh : U'.heap = U.heap) : Ch a A U' := ⟨h.1.mv hal hh, h.2⟩
theorem Ch.keep {a : Addr} {A : Cell} {U U' : State} (h : Ch a A U) (hal : U.vm.Alike U'.vm) (hk : U'.heap[a]? = some A) : Ch a A U' := ⟨h.1.keep hal hk, h.2⟩
/-- what place i of a char[]'s cell holds -/
def cv (A : Cell) (i : Nat) : Int32 := match A.slots[i]? with | some (.int x) => x | _ => 0
theorem Ch.get {a : Addr} {A : Cell} {U : State} (h : Ch a A U) {i : Nat} (hi : i < A.slots.size) : A.slots[i]? = some (.int (cv A i)) := by
  have e := Array.getElem?_eq_getElem hi
  have f := h.2 i _ e
  unfold cv; rw [e]
  generalize A.slots[i] = v at f
  cases v <;> simp [fits] at f ⊢
/-- the byte that i2b leaves of a char -/
def lo8 (x : Int32) : Int32 := x.toInt8.toInt32
theorem fits_lo8 (y : Int32) : fits .byte (.int (lo8 y)) = true := by
  have h1 := y.toInt8.le_toInt
  have h2 := y.toInt8.toInt_lt
  simp only [lo8, fits, Bool.and_eq_true, decide_eq_true_eq, Int32.le_iff_toInt_le, Int8.toInt_toInt32, show (-128 : Int32).toInt = -128 from by decide, show (127 : Int32).toInt = 127 from by decide]
  omega
/-- A' is A but that each place j of lo .. hi - 1 holds f j -/
def Laid (A A' : Cell) (lo hi : Nat) (f : Nat → Value) : Prop := A'.cls = A.cls ∧ A'.vm = A.vm ∧ A'.slots.size = A.slots.size ∧ ∀ i, A'.slots[i]? = if lo ≤ i ∧ i < hi then some (f i) else A.slots[i]?
theorem Laid.zero (A : Cell) (lo : Nat) (f : Nat → Value) : Laid A A lo (lo + 0) f := ⟨rfl, rfl, rfl, fun i => by rw [if_neg (by omega)]⟩
theorem Laid.step {A Ak : Cell} {lo k : Nat} {f : Nat → Value} {v : Value} (h : Laid A Ak lo k f) (hlo : lo ≤ k) (hk : k < Ak.slots.size) (hv : v = f k) : Laid A (Ak.setSlot k v) lo (k + 1) f := by
  refine ⟨h.1, h.2.1, by simpa [Cell.setSlot] using h.2.2.1, fun i => ?_⟩
  by_cases e : k = i
  · subst e; rw [Cell.slots_setSlot_self v hk, if_pos (by omega), hv]
  · rw [Cell.slots_setSlot_ne v e, h.2.2.2 i]
    by_cases q : lo ≤ i ∧ i < k
    · rw [if_pos q, if_pos (by omega)]
    · rw [if_neg q, if_neg (by omega)]
def U16 : String := "java/lang/StringUTF16"
namespace Cmp5
def yN : MethodName := ⟨"java/lang/StringUTF16", "compress", "([CI[BII)I"⟩
abbrev yB : ByteArray := jdk_52_method_21_code
theorem d0 : decode yB 0 = .ok (.iconst 0, 1) := by decide +kernel
theorem d1 : decode yB 1 = .ok (.istore 5, 2) := by decide +kernel
theorem d3 : decode yB 3 = .ok (.iload 5, 2) := by decide +kernel
theorem d5 : decode yB 5 = .ok (.iload 4, 2) := by decide +kernel
theorem d7 : decode yB 7 = .ok (.if_icmp (.ge) 37, 3) := by decide +kernel
theorem d10 : decode yB 10 = .ok (.aload_n 0, 1) := by decide +kernel
theorem d11 : decode yB 11 = .ok (.iload_n 1, 1) := by decide +kernel
theorem d12 : decode yB 12 = .ok (.caload, 1) := by decide +kernel
theorem d13 : decode yB 13 = .ok (.istore 6, 2) := by decide +kernel
theorem d15 : decode yB 15 = .ok (.iload 6, 2) := by decide +kernel
theorem d17 : decode yB 17 = .ok (.sipush 255, 3) := by decide +kernel
theorem d20 : decode yB 20 = .ok (.if_icmp (.le) 6, 3) := by decide +kernel
theorem d26 : decode yB 26 = .ok (.aload_n 2, 1) := by decide +kernel
theorem d27 : decode yB 27 = .ok (.iload_n 3, 1) := by decide +kernel
theorem d28 : decode yB 28 = .ok (.iload 6, 2) := by decide +kernel
theorem d30 : decode yB 30 = .ok (.i2b, 1) := by decide +kernel
theorem d31 : decode yB 31 = .ok (.bastore, 1) := by decide +kernel
theorem d32 : decode yB 32 = .ok (.iinc 1 1, 3) := by decide +kernel
theorem d35 : decode yB 35 = .ok (.iinc 3 1, 3) := by decide +kernel
theorem d38 : decode yB 38 = .ok (.iinc 5 1, 3) := by decide +kernel
theorem d41 : decode yB 41 = .ok (.goto (-38), 3) := by decide +kernel
theorem d44 : decode yB 44 = .ok (.iload 4, 2) := by decide +kernel
theorem d46 : decode yB 46 = .ok (.ireturn, 1) := by decide +kernel
def site : List Cond := []
def tab : Cond := tabOf yN yB 7 (some .int) site
def P (b : Addr) (A : Cell) (d : Addr) (B : Cell) (o q len : Nat) (args : Array Value) (s : State) : Prop := args = #[.ref b, .int (Int32.ofNat o), .ref d, .int (Int32.ofNat q), .int (Int32.ofNat len)] ∧ Ch b A s ∧ Arr .byte d B s ∧ b ≠ d ∧ o + len ≤ A.slots.size ∧ q + len ≤ B.slots.size ∧ ∀ i, i < len → ¬ 255 < cv A (o + i)
def E (b : Addr) (A : Cell) (d : Addr) (B : Cell) (o q len : Nat) (r : Option Value) (s u : State) : Prop := r = some (.int (Int32.ofNat len)) ∧ ∃ B', Put d B' s u ∧ Laid B B' q (q + len) (fun j => Value.int (lo8 (cv A (o + (j - q)))))
/-- no char of the range above 255: len; the places written hold each char's low byte -/
theorem law (l : Launch) (b : Addr) (A : Cell) (d : Addr) (B : Cell) (o q len : Nat) : Law l yN 5 5 0 0 yB 7 (some .int) site (P b A d B o q len) (E b A d B o q len) (copyLocs d q len) 0 0 := by
  refine Law.of_walk (plainFor_of_name (by decide +kernel)) (by decide +kernel) (by decide +kernel) (by decide) (fun _ _ h => by rw [h.1]; rfl) (fun _ U U' hal hh h => ⟨h.1, h.2.1.mv hal hh, h.2.2.1.mv hal hh, h.2.2.2⟩) (fun r U U' V V' h1 hal h2 h => ⟨h.1, h.2.elim fun B' q => ⟨B', q.1.mv h1 h2, q.2⟩⟩) ?_
  intro p e s m args below meth c s₁ X0 hexec hbytes hml hret hlk hnm hown hh0 W hP
  obtain ⟨rfl, hA, hB, hne, l1, l2, hp⟩ := hP
  have c1 : Steps p.tables e below (s₁.setTop (entryFrame m #[.ref b, .int (Int32.ofNat o), .ref d, .int (Int32.ofNat q), .int (Int32.ofNat len)] 7)) (s₁.setTop (mkF m 0 #[.val (.ref b), .val (.int (Int32.ofNat o)), .val (.ref d), .val (.int (Int32.ofNat q)), .val (.int (Int32.ofNat len)), .unset, .unset] [])) := entry rfl
  have hA0 := hA.1.mv X0.warmed.alike hh0
  have hB0 := hB.mv X0.warmed.alike hh0
  have a31 := hA.1.2.2.2
  have c2 : Steps p.tables e below (s₁.setTop (entryFrame m #[.ref b, .int (Int32.ofNat o), .ref d, .int (Int32.ofNat q), .int (Int32.ofNat len)] 7)) (s₁.setTop (mkF m 3 #[.val (.ref b), .val (.int (Int32.ofNat o)), .val (.ref d), .val (.int (Int32.ofNat q)), .val (.int (Int32.ofNat len)), .val (.int 0), .unset] [])) := c1.trans (by
    refine iconstV X0.here hexec rfl 0 (hb hbytes d0) (by decide) ?_
    refine XS.istore X0.here hexec rfl (hb hbytes d1) rfl rfl ?_
    exact Steps.refl _)
  have loop : ∀ (r i : Nat), i + r = len → ∀ (z : Slot), (z = .unset ∨ ∃ w, z = .val w ∧ w.category = 1) → ∀ (Tl : State) (Bk : Cell), Stand p l e { frames := 0, locals := 0, cells := 0, slots := 0 } s m #[.ref b, .int (Int32.ofNat o), .ref d, .int (Int32.ofNat q), .int (Int32.ofNat len)] below meth c Tl ([] ++ copyLocs d q i) 0 0 → Put d Bk s₁ Tl → Laid B Bk q (q + i) (fun j => Value.int (lo8 (cv A (o + (j - q))))) →
      Steps p.tables e below (s₁.setTop (entryFrame m #[.ref b, .int (Int32.ofNat o), .ref d, .int (Int32.ofNat q), .int (Int32.ofNat len)] 7)) (Tl.setTop (mkF m 3 #[.val (.ref b), .val (.int (Int32.ofNat (o + i))), .val (.ref d), .val (.int (Int32.ofNat (q + i))), .val (.int (Int32.ofNat len)), .val (.int (Int32.ofNat i)), z] [])) → ∃ (T' : State) (B' : Cell) (z' : Slot), Stand p l e { frames := 0, locals := 0, cells := 0, slots := 0 } s m #[.ref b, .int (Int32.ofNat o), .ref d, .int (Int32.ofNat q), .int (Int32.ofNat len)] below meth c T' ([] ++ copyLocs d q len) 0 0 ∧ Put d B' s₁ T' ∧ Laid B B' q (q + len) (fun j => Value.int (lo8 (cv A (o + (j - q))))) ∧
      Steps p.tables e below (s₁.setTop (entryFrame m #[.ref b, .int (Int32.ofNat o), .ref d, .int (Int32.ofNat q), .int (Int32.ofNat len)] 7)) (T'.setTop (mkF m 3 #[.val (.ref b), .val (.int (Int32.ofNat (o + len))), .val (.ref d), .val (.int (Int32.ofNat (q + len))), .val (.int (Int32.ofNat len)), .val (.int (Int32.ofNat len)), z'] [])) := by
    intro r
    induction r with
    | zero =>
      intro i hi z hz Tl Bk Xl pl fl cl
      have hil : i = len := by omega
      rw [hil] at Xl fl cl
      exact ⟨Tl, Bk, z, Xl, pl, fl, cl⟩
    | succ r ih =>
      intro i hi z hz Tl Bk Xl pl fl cl
      have all := X0.warmed.alike.symm.trans Xl.warmed.alike
      have hAl := hA0.keep all (pl.other hne hA0.1)
      have hBk := hB0.like all pl.1 fl.1 fl.2.1 fl.2.2.1
      have hlt : q + i < Bk.slots.size := by rw [fl.2.2.1]; omega
      have c3 : Steps p.tables e below (s₁.setTop (entryFrame m #[.ref b, .int (Int32.ofNat o), .ref d, .int (Int32.ofNat q), .int (Int32.ofNat len)] 7)) (Tl.setTop (mkF m 12 #[.val (.ref b), .val (.int (Int32.ofNat (o + i))), .val (.ref d), .val (.int (Int32.ofNat (q + i))), .val (.int (Int32.ofNat len)), .val (.int (Int32.ofNat i)), z] [.int (Int32.ofNat (o + i)), .ref b])) := cl.trans (by
        refine XS.iload Xl.here hexec rfl (hb hbytes d3) rfl ?_
        refine XS.iload Xl.here hexec rfl (hb hbytes d5) rfl ?_
        refine XS.icmpNo Xl.here hexec rfl (hb hbytes d7) rfl (ii_ge_f (lt32 (by omega) (by omega))) ?_
        refine XS.aloadN Xl.here hexec rfl (hb hbytes d10) rfl rfl ?_
        refine XS.iloadN Xl.here hexec rfl (hb hbytes d11) rfl ?_
        exact Steps.refl _)
      have c4 : Steps p.tables e below (s₁.setTop (entryFrame m #[.ref b, .int (Int32.ofNat o), .ref d, .int (Int32.ofNat q), .int (Int32.ofNat len)] 7)) (Tl.setTop (mkF m 13 #[.val (.ref b), .val (.int (Int32.ofNat (o + i))), .val (.ref d), .val (.int (Int32.ofNat (q + i))), .val (.int (Int32.ofNat len)), .val (.int (Int32.ofNat i)), z] [.int (cv A (o + i))])) := c3.trans (by
        refine Xl.aget hexec hAl rfl (hA.get (i := o + i) (by omega)) rfl rfl (hb hbytes d12) ?_
        exact Steps.refl _)
      have c5 : Steps p.tables e below (s₁.setTop (entryFrame m #[.ref b, .int (Int32.ofNat o), .ref d, .int (Int32.ofNat q), .int (Int32.ofNat len)] 7)) (Tl.setTop (mkF m 15 #[.val (.ref b), .val (.int (Int32.ofNat (o + i))), .val (.ref d), .val (.int (Int32.ofNat (q + i))), .val (.int (Int32.ofNat len)), .val (.int (Int32.ofNat i)), .val (.int (cv A (o + i)))] [])) := c4.trans (by
        refine XS.istoreS Xl.here hexec rfl (hb hbytes d13) rfl rfl hz ?_
        exact Steps.refl _)
      have c6 : Steps p.tables e below (s₁.setTop (entryFrame m #[.ref b, .int (Int32.ofNat o), .ref d, .int (Int32.ofNat q), .int (Int32.ofNat len)] 7)) (Tl.setTop (mkF m 31 #[.val (.ref b), .val (.int (Int32.ofNat (o + i))), .val (.ref d), .val (.int (Int32.ofNat (q + i))), .val (.int (Int32.ofNat len)), .val (.int (Int32.ofNat i)), .val (.int (cv A (o + i)))] [.int (lo8 (cv A (o + i))), .int (Int32.ofNat (q + i)), .ref d])) := c5.trans (by
        refine XS.iload Xl.here hexec rfl (hb hbytes d15) rfl ?_
        refine sipushV Xl.here hexec rfl 255 (hb hbytes d17) (by decide) ?_
        refine XS.icmpYes Xl.here hexec rfl (pc0 := 20) rfl (hb hbytes d20) rfl (ii_le_t (hp i (by omega))) (by decide) rfl ?_
        refine XS.aloadN Xl.here hexec rfl (hb hbytes d26) rfl rfl ?_
        refine XS.iloadN Xl.here hexec rfl (hb hbytes d27) rfl ?_
        refine XS.iload Xl.here hexec rfl (hb hbytes d28) rfl ?_
        refine i2b Xl.here hexec rfl (hb hbytes d30) rfl ?_
        exact Steps.refl _)
      obtain ⟨T7, X7, p7, st7⟩ := Xl.aput hexec hBk rfl hlt rfl (fits_lo8 (cv A (o + i))) (g := (mkF m 31 #[.val (.ref b), .val (.int (Int32.ofNat (o + i))), .val (.ref d), .val (.int (Int32.ofNat (q + i))), .val (.int (Int32.ofNat len)), .val (.int (Int32.ofNat i)), .val (.int (cv A (o + i)))] [.int (lo8 (cv A (o + i))), .int (Int32.ofNat (q + i)), .ref d])) rfl (rest := []) rfl (hb hbytes d31)
      have c8 : Steps p.tables e below (s₁.setTop (entryFrame m #[.ref b, .int (Int32.ofNat o), .ref d, .int (Int32.ofNat q), .int (Int32.ofNat len)] 7)) (T7.setTop (mkF m 32 #[.val (.ref b), .val (.int (Int32.ofNat (o + i))), .val (.ref d), .val (.int (Int32.ofNat (q + i))), .val (.int (Int32.ofNat len)), .val (.int (Int32.ofNat i)), .val (.int (cv A (o + i)))] [])) := c6.trans (st7 _ (Steps.refl _))
      have c9 : Steps p.tables e below (s₁.setTop (entryFrame m #[.ref b, .int (Int32.ofNat o), .ref d, .int (Int32.ofNat q), .int (Int32.ofNat len)] 7)) (T7.setTop (mkF m 3 #[.val (.ref b), .val (.int (Int32.ofNat (o + i) + 1)), .val (.ref d), .val (.int (Int32.ofNat (q + i) + 1)), .val (.int (Int32.ofNat len)), .val (.int (Int32.ofNat i + 1)), .val (.int (cv A (o + i)))] [])) := c8.trans (by
        refine iincV X7.here hexec rfl 1 (hb hbytes d32) (by decide) rfl rfl ?_
        refine iincV X7.here hexec rfl 1 (hb hbytes d35) (by decide) rfl rfl ?_
        refine iincV X7.here hexec rfl 1 (hb hbytes d38) (by decide) rfl rfl ?_
        refine XS.goto X7.here hexec rfl (pc0 := 41) rfl (hb hbytes d41) (by decide) rfl ?_
        exact Steps.refl _)
      have c10 : Steps p.tables e below (s₁.setTop (entryFrame m #[.ref b, .int (Int32.ofNat o), .ref d, .int (Int32.ofNat q), .int (Int32.ofNat len)] 7)) (T7.setTop (mkF m 3 #[.val (.ref b), .val (.int (Int32.ofNat (o + (i + 1)))), .val (.ref d), .val (.int (Int32.ofNat (q + (i + 1)))), .val (.int (Int32.ofNat len)), .val (.int (Int32.ofNat (i + 1))), .val (.int (cv A (o + i)))] [])) := by
        have := c9
        rw [succ32, succ32, succ32] at this
        exact this
      exact ih (i + 1) (by omega) _ (Or.inr ⟨_, rfl, rfl⟩) T7 _ (by rw [copyLocs_step, ← List.append_assoc]; exact X7) (pl.trans p7) (fl.step (by omega) hlt (by simp)) c10
  obtain ⟨T9, B9, z9, X9, p9, f9, g9⟩ := loop len 0 (by omega) .unset (Or.inl rfl) s₁ B (by simpa [copyLocs] using X0) ⟨hB0.1, fun _ _ => rfl, rfl⟩ (Laid.zero _ _ _) c2
  have c11 : Steps p.tables e below (s₁.setTop (entryFrame m #[.ref b, .int (Int32.ofNat o), .ref d, .int (Int32.ofNat q), .int (Int32.ofNat len)] 7)) (T9.setTop (mkF m 46 #[.val (.ref b), .val (.int (Int32.ofNat (o + len))), .val (.ref d), .val (.int (Int32.ofNat (q + len))), .val (.int (Int32.ofNat len)), .val (.int (Int32.ofNat len)), z9] [.int (Int32.ofNat len)])) := g9.trans (by
    refine XS.iload X9.here hexec rfl (hb hbytes d3) rfl ?_
    refine XS.iload X9.here hexec rfl (hb hbytes d5) rfl ?_
    refine XS.icmpYes X9.here hexec rfl (pc0 := 7) rfl (hb hbytes d7) rfl (ii_ge_t (nlt32 (by omega) (Nat.le_refl _))) (by decide) rfl ?_
    refine XS.iload X9.here hexec rfl (hb hbytes d44) rfl ?_
    exact Steps.refl _)
  exact ⟨T9, some (.int (Int32.ofNat len)), _, _, _, X9, by simp, rfl, rfl, (fun h => by cases h), ⟨rfl, B9, p9.from hh0, f9⟩, fun fs hl => c11.trans (X9.ireturnOut hexec hret rfl (Or.inl rfl) (hb hbytes d46) hl)⟩
end Cmp5
namespace Cmp3
def yN : MethodName := ⟨"java/lang/StringUTF16", "compress", "([CII)[B"⟩
abbrev yB : ByteArray := jdk_52_method_16_code
theorem d0 : decode yB 0 = .ok (.iload_n 2, 1) := by decide +kernel
theorem d1 : decode yB 1 = .ok (.newarray .byte, 2) := by decide +kernel
theorem d3 : decode yB 3 = .ok (.astore_n 3, 1) := by decide +kernel
theorem d4 : decode yB 4 = .ok (.aload_n 0, 1) := by decide +kernel
theorem d5 : decode yB 5 = .ok (.iload_n 1, 1) := by decide +kernel
theorem d6 : decode yB 6 = .ok (.aload_n 3, 1) := by decide +kernel
theorem d7 : decode yB 7 = .ok (.iconst 0, 1) := by decide +kernel
theorem d8 : decode yB 8 = .ok (.iload_n 2, 1) := by decide +kernel
theorem d9 : decode yB 9 = .ok (.invokestatic 115, 3) := by decide +kernel
theorem d12 : decode yB 12 = .ok (.istore 4, 2) := by decide +kernel
theorem d14 : decode yB 14 = .ok (.iload 4, 2) := by decide +kernel
theorem d16 : decode yB 16 = .ok (.iload_n 2, 1) := by decide +kernel
theorem d17 : decode yB 17 = .ok (.if_icmp (.eq) 40, 3) := by decide +kernel
theorem d57 : decode yB 57 = .ok (.aload_n 3, 1) := by decide +kernel
theorem d58 : decode yB 58 = .ok (.areturn, 1) := by decide +kernel
def site : List Cond := [.arrayClass .byte, Cmp5.tab] ++ staticW U16 115 Cmp5.yN
def tab : Cond := tabOf yN yB 6 (some (.array .byte)) site
def P (b : Addr) (A : Cell) (o len : Nat) (args : Array Value) (s : State) : Prop := args = #[.ref b, .int (Int32.ofNat o), .int (Int32.ofNat len)] ∧ Ch b A s ∧ o + len ≤ A.slots.size ∧ len ≤ 536870912 ∧ ∀ i, i < len → ¬ 255 < cv A (o + i)
def E (b : Addr) (A : Cell) (o len : Nat) (r : Option Value) (s u : State) : Prop := NewArr .byte "[B" len (fun j => .int (lo8 (cv A (o + j)))) r s u ∧ u.heap.size = s.heap.size + 1
/-- no char of the range above 255: a new byte[] of their low bytes -/
theorem law (l : Launch) (b : Addr) (A : Cell) (o len : Nat) : Law l yN 3 3 1 18 yB 6 (some (.array .byte)) site (P b A o len) (E b A o len) [] 1 len := by
  refine Law.of_walk (plainFor_of_name (by decide +kernel)) (by decide +kernel) (by decide +kernel) (by decide) (fun _ _ h => by rw [h.1]; rfl) (fun _ U U' hal hh h => ⟨h.1, h.2.1.mv hal hh, h.2.2⟩) (fun r U U' V V' h1 hal h2 h => ⟨NewArr.mv r U U' V V' h1 hal h2 h.1, by rw [h1, h2]; exact h.2⟩) ?_
  intro p e s m args below meth c s₁ X0 hexec hbytes hml hret hlk hnm hown hh0 W hP
  obtain ⟨rfl, hA, l1, l2, hp⟩ := hP
  have a31 := hA.1.2.2.2
  have c1 : Steps p.tables e below (s₁.setTop (entryFrame m #[.ref b, .int (Int32.ofNat o), .int (Int32.ofNat len)] 6)) (s₁.setTop (mkF m 0 #[.val (.ref b), .val (.int (Int32.ofNat o)), .val (.int (Int32.ofNat len)), .unset, .unset, .unset] [])) := entry rfl
  have c2 : Steps p.tables e below (s₁.setTop (entryFrame m #[.ref b, .int (Int32.ofNat o), .int (Int32.ofNat len)] 6)) (s₁.setTop (mkF m 1 #[.val (.ref b), .val (.int (Int32.ofNat o)), .val (.int (Int32.ofNat len)), .unset, .unset, .unset] [.int (Int32.ofNat len)])) := c1.trans (by
    refine XS.iloadN X0.here hexec rfl (hb hbytes d0) rfl ?_
    exact Steps.refl _)
  obtain ⟨T3, B3, X3, ba3, bs3, bv3, bh3, bf3, st3⟩ := X0.anew hexec (atype := .byte) (wk W (.arrayClass .byte)) rfl (by show len * 1 ≤ _; omega) (by omega) (g := (mkF m 1 #[.val (.ref b), .val (.int (Int32.ofNat o)), .val (.int (Int32.ofNat len)), .unset, .unset, .unset] [.int (Int32.ofNat len)])) rfl (hb hbytes d1) (rest := []) rfl (Nat.le_refl _) (by show 0 + len ≤ len; omega)
  rw [hh0] at ba3 st3
  have kp3 : XT.Kept s T3 := (XT.Kept.of_eq hh0).push bh3
  have hA3 := hA.keep X3.warmed.alike (kp3 _ _ hA.1.1)
  have hne : b ≠ s.heap.size := hA.1.ne
  have c4 : Steps p.tables e below (s₁.setTop (entryFrame m #[.ref b, .int (Int32.ofNat o), .int (Int32.ofNat len)] 6)) (T3.setTop (mkF m 3 #[.val (.ref b), .val (.int (Int32.ofNat o)), .val (.int (Int32.ofNat len)), .unset, .unset, .unset] [.ref s.heap.size])) := c2.trans (st3 _ (Steps.refl _))
  have c5 : Steps p.tables e below (s₁.setTop (entryFrame m #[.ref b, .int (Int32.ofNat o), .int (Int32.ofNat len)] 6)) (T3.setTop (mkF m 9 #[.val (.ref b), .val (.int (Int32.ofNat o)), .val (.int (Int32.ofNat len)), .val (.ref s.heap.size), .unset, .unset] [.int (Int32.ofNat len), .int 0, .ref s.heap.size, .int (Int32.ofNat o), .ref b])) := c4.trans (by
    refine XS.astoreN X3.here hexec rfl (hb hbytes d3) rfl rfl rfl ?_
    refine XS.aloadN X3.here hexec rfl (hb hbytes d4) rfl rfl ?_
    refine XS.iloadN X3.here hexec rfl (hb hbytes d5) rfl ?_
    refine XS.aloadN X3.here hexec rfl (hb hbytes d6) rfl rfl ?_
    refine iconstV X3.here hexec rfl 0 (hb hbytes d7) (by decide) ?_
    refine XS.iloadN X3.here hexec rfl (hb hbytes d8) rfl ?_
    exact Steps.refl _)
  obtain ⟨v6, T6, X6, E6, g6⟩ := X3.callS hexec (Cmp5.law l b A s.heap.size B3 o 0 len) hown (wks W (staticW U16 115 Cmp5.yN)) (wk W Cmp5.tab) (W := 0) (Nat.le_of_ble_eq_true rfl) (Nat.le_of_ble_eq_true rfl) (Nat.le_refl _) (by show 0 + len + 0 ≤ len; omega) (g := (mkF m 9 #[.val (.ref b), .val (.int (Int32.ofNat o)), .val (.int (Int32.ofNat len)), .val (.ref s.heap.size), .unset, .unset] [.int (Int32.ofNat len), .int (Int32.ofNat 0), .ref s.heap.size, .int (Int32.ofNat o), .ref b])) rfl (by rw [hml]; rfl) c5 (argsL := [.ref b, .int (Int32.ofNat o), .ref s.heap.size, .int (Int32.ofNat 0), .int (Int32.ofNat len)]) (rest := []) rfl rfl (by show 2 * 0 + 0 ≤ _; decide) (hb hbytes d9) (⟨rfl, hA3, ba3, hne, l1, by rw [bs3]; simp, hp⟩)
  obtain ⟨rfl, B6, p6, f6⟩ := E6
  have c7 : Steps p.tables e below (s₁.setTop (entryFrame m #[.ref b, .int (Int32.ofNat o), .int (Int32.ofNat len)] 6)) (T6.setTop (mkF m 12 #[.val (.ref b), .val (.int (Int32.ofNat o)), .val (.int (Int32.ofNat len)), .val (.ref s.heap.size), .unset, .unset] [.int (Int32.ofNat len)])) := g6
  have c8 : Steps p.tables e below (s₁.setTop (entryFrame m #[.ref b, .int (Int32.ofNat o), .int (Int32.ofNat len)] 6)) (T6.setTop (mkF m 58 #[.val (.ref b), .val (.int (Int32.ofNat o)), .val (.int (Int32.ofNat len)), .val (.ref s.heap.size), .val (.int (Int32.ofNat len)), .unset] [.ref s.heap.size])) := c7.trans (by
    refine XS.istore X6.here hexec rfl (hb hbytes d12) rfl rfl ?_
    refine XS.iload X6.here hexec rfl (hb hbytes d14) rfl ?_
    refine XS.iloadN X6.here hexec rfl (hb hbytes d16) rfl ?_
    refine XS.icmpYes X6.here hexec rfl (pc0 := 17) rfl (hb hbytes d17) rfl (ii_eq_t rfl) (by decide) rfl ?_
    refine XS.aloadN X6.here hexec rfl (hb hbytes d57) rfl rfl ?_
    exact Steps.refl _)
  have X8 := X6.wide (L' := []) (cells' := 1) (slots' := len) (fun x hx hlt => by
    simp only [List.nil_append, copyLocs, List.mem_map, List.mem_range] at hx
    obtain ⟨i, -, rfl⟩ := hx
    exact absurd hlt (Nat.lt_irrefl _)) (Nat.le_refl _) (by omega)
  exact ⟨T6, some (.ref s.heap.size), _, _, _, X8, rfl, rfl, rfl, (fun h => by cases h), ⟨⟨rfl, B6, ba3.like (X3.warmed.alike.symm.trans X6.warmed.alike) p6.1 f6.1 f6.2.1 f6.2.2.1, f6.2.1.trans bv3, by rw [X6.warmed.alike.findClass, f6.1]; exact bf3, by rw [f6.2.2.1, bs3]; simp, fun j hj => by rw [f6.2.2.2 j, if_pos (by omega)]; rfl, kp3.put p6 (Nat.le_refl _)⟩, by rw [p6.2.2, bh3, hh0]; simp⟩, fun fs hl => c8.trans (X8.areturnOut hexec rfl hret rfl (hb hbytes d58) hl)⟩
end Cmp3
namespace CodL
def yN : MethodName := ⟨"java/lang/StringUTF16", "coderFromArrayLen", "([BI)B"⟩
abbrev yB : ByteArray := jdk_52_method_15_code
theorem d0 : decode yB 0 = .ok (.iload_n 1, 1) := by decide +kernel
theorem d1 : decode yB 1 = .ok (.aload_n 0, 1) := by decide +kernel
theorem d2 : decode yB 2 = .ok (.arraylength, 1) := by decide +kernel
theorem d3 : decode yB 3 = .ok (.isub, 1) := by decide +kernel
theorem d4 : decode yB 4 = .ok (.bipush 31, 2) := by decide +kernel
theorem d6 : decode yB 6 = .ok (.iushr, 1) := by decide +kernel
theorem d7 : decode yB 7 = .ok (.i2b, 1) := by decide +kernel
theorem d8 : decode yB 8 = .ok (.ireturn, 1) := by decide +kernel
def site : List Cond := []
def tab : Cond := tabOf yN yB 2 (some .byte) site
def P (d : Addr) (B : Cell) (args : Array Value) (s : State) : Prop := args = #[.ref d, .int (Int32.ofNat B.slots.size)] ∧ Arr .byte d B s
def E (r : Option Value) (s u : State) : Prop := XT.PureE (some (.int 0)) r s u
/-- an array as long as the number of chars: LATIN1 -/
theorem law (l : Launch) (d : Addr) (B : Cell) : Law l yN 2 2 0 0 yB 2 (some .byte) site (P d B) E [] 0 0 := by
  refine Law.of_walk (plainFor_of_name (by decide +kernel)) (by decide +kernel) (by decide +kernel) (by decide) (fun _ _ h => by rw [h.1]; rfl) (fun _ U U' hal hh h => ⟨h.1, h.2.mv hal hh⟩) (fun r U U' V V' h1 hal h2 h => XT.PureE.mv r U U' V V' h1 hal h2 h) ?_
  intro p e s m args below meth c s₁ X0 hexec hbytes hml hret hlk hnm hown hh0 W hP
  obtain ⟨rfl, hB⟩ := hP
  have hB0 := hB.mv X0.warmed.alike hh0
  have c1 : Steps p.tables e below (s₁.setTop (entryFrame m #[.ref d, .int (Int32.ofNat B.slots.size)] 2)) (s₁.setTop (mkF m 0 #[.val (.ref d), .val (.int (Int32.ofNat B.slots.size))] [])) := entry rfl
  have c2 : Steps p.tables e below (s₁.setTop (entryFrame m #[.ref d, .int (Int32.ofNat B.slots.size)] 2)) (s₁.setTop (mkF m 2 #[.val (.ref d), .val (.int (Int32.ofNat B.slots.size))] [.ref d, .int (Int32.ofNat B.slots.size)])) := c1.trans (by
    refine XS.iloadN X0.here hexec rfl (hb hbytes d0) rfl ?_
    refine XS.aloadN X0.here hexec rfl (hb hbytes d1) rfl rfl ?_
    exact Steps.refl _)
  have c3 : Steps p.tables e below (s₁.setTop (entryFrame m #[.ref d, .int (Int32.ofNat B.slots.size)] 2)) (s₁.setTop (mkF m 8 #[.val (.ref d), .val (.int (Int32.ofNat B.slots.size))] [.int (lo8 (ushr (Int32.ofNat B.slots.size - Int32.ofNat B.slots.size) 31))])) := c2.trans (by
    refine X0.alen hexec hB0 rfl rfl (hb hbytes d2) ?_
    refine XS.isub X0.here hexec rfl (hb hbytes d3) rfl ?_
    refine bipushV X0.here hexec rfl 31 (hb hbytes d4) (by decide) ?_
    refine iushr X0.here hexec rfl (hb hbytes d6) rfl ?_
    refine i2b X0.here hexec rfl (hb hbytes d7) rfl ?_
    exact Steps.refl _)
  have e0 : lo8 (ushr (Int32.ofNat B.slots.size - Int32.ofNat B.slots.size) 31) = 0 := by rw [Int32.sub_self]; decide
  rw [e0] at c3
  exact ⟨s₁, some (.int 0), _, _, _, X0, rfl, rfl, rfl, (fun h => by cases h), ⟨rfl, hh0⟩, fun fs hl => c3.trans (X0.ireturnOut hexec hret rfl (Or.inr (Or.inr (Or.inl rfl))) (hb hbytes d8) hl)⟩
end CodL
/-- the String at a is Latin-1 over a new byte[] (the heap's one new cell): the low bytes of the len chars of A from o on; every cell but a is kept -/
def Got (a : Addr) (D : Cell) (fV fC : Field) (A : Cell) (o len : Nat) (r : Option Value) (s u : State) : Prop := r = none ∧ ∃ D' V : Cell, Blank "java/lang/String" a D' u ∧ Same D D' [fV.slot, fC.slot] ∧ D'.slots[fV.slot]? = some (.ref s.heap.size) ∧ D'.slots[fC.slot]? = some (.int 0) ∧ Arr .byte s.heap.size V u ∧ V.vm = .none ∧ u.vm.findClass "[B" = some V.cls ∧ V.slots.size = len ∧ (∀ j, j < len → V.slots[j]? = some (.int (lo8 (cv A (o + j))))) ∧ (∀ (y : Addr) (c : Cell), y ≠ a → s.heap[y]? = some c → u.heap[y]? = some c) ∧ u.heap.size = s.heap.size + 1
theorem Got.mv {a : Addr} {D A : Cell} {fV fC : Field} {o len : Nat} : ∀ r (U U' V V' : State), U'.heap = U.heap → V.vm.Alike V'.vm → V'.heap = V.heap → Got a D fV fC A o len r U V → Got a D fV fC A o len r U' V' :=
  fun r U U' V V' h1 hal h2 ⟨e0, D', X, a1, a2, a3, a4, a5, a6, a7, a8, a9, a10, a11⟩ => ⟨e0, D', X, a1.mv hal h2, a2, by rw [h1]; exact a3, a4, by rw [h1]; exact a5.mv hal h2, a6, by rw [hal.findClass]; exact a7, a8, a9, by rw [h1, h2]; exact a10, by rw [h1, h2]; exact a11⟩
namespace New4
def yN : MethodName := ⟨"java/lang/String", "<init>", "([CIILjava/lang/Void;)V"⟩
abbrev yB : ByteArray := jdk_42_method_149_code
theorem d0 : decode yB 0 = .ok (.aload_n 0, 1) := by decide +kernel
theorem d1 : decode yB 1 = .ok (.invokespecial 1, 3) := by decide +kernel
theorem d4 : decode yB 4 = .ok (.iload_n 3, 1) := by decide +kernel
theorem d5 : decode yB 5 = .ok (.ifCond (.ne) 22, 3) := by decide +kernel
theorem d27 : decode yB 27 = .ok (.getstatic 38, 3) := by decide +kernel
theorem d30 : decode yB 30 = .ok (.ifCond (.eq) 28, 3) := by decide +kernel
theorem d33 : decode yB 33 = .ok (.aload_n 1, 1) := by decide +kernel
theorem d34 : decode yB 34 = .ok (.iload_n 2, 1) := by decide +kernel
theorem d35 : decode yB 35 = .ok (.iload_n 3, 1) := by decide +kernel
theorem d36 : decode yB 36 = .ok (.invokestatic 177, 3) := by decide +kernel
theorem d39 : decode yB 39 = .ok (.astore 5, 2) := by decide +kernel
theorem d41 : decode yB 41 = .ok (.aload_n 0, 1) := by decide +kernel
theorem d42 : decode yB 42 = .ok (.aload 5, 2) := by decide +kernel
theorem d44 : decode yB 44 = .ok (.iload_n 3, 1) := by decide +kernel
theorem d45 : decode yB 45 = .ok (.invokestatic 47, 3) := by decide +kernel
theorem d48 : decode yB 48 = .ok (.putfield 15, 3) := by decide +kernel
theorem d51 : decode yB 51 = .ok (.aload_n 0, 1) := by decide +kernel
theorem d52 : decode yB 52 = .ok (.aload 5, 2) := by decide +kernel
theorem d54 : decode yB 54 = .ok (.putfield 9, 3) := by decide +kernel
theorem d57 : decode yB 57 = .ok (.return_, 1) := by decide +kernel
def site : List Cond := [.fieldLink "java/lang/String" 38 "java/lang/String" "COMPACT_STRINGS" "Z", Cmp3.tab, CodL.tab, .laysFinal "java/lang/String" "java/lang/String" "value" "[B", .fieldLink "java/lang/String" 9 "java/lang/String" "value" "[B", .laysFinal "java/lang/String" "java/lang/String" "coder" "B", .fieldLink "java/lang/String" 15 "java/lang/String" "coder" "B"] ++ objW "java/lang/String" 1 ++ staticW "java/lang/String" 177 Cmp3.yN ++ staticW "java/lang/String" 47 CodL.yN
def tab : Cond := tabOf yN yB 6 none site
def P (a : Addr) (D : Cell) (fV fC : Field) (b : Addr) (A : Cell) (z : Int32) (o len : Nat) (args : Array Value) (s : State) : Prop := args = #[.ref a, .ref b, .int (Int32.ofNat o), .int (Int32.ofNat len), .null] ∧ Blank "java/lang/String" a D s ∧ Found "java/lang/String" "value" "[B" fV s ∧ Found "java/lang/String" "coder" "B" fC s ∧ Ch b A s ∧ StaticIs s "java/lang/String" "COMPACT_STRINGS" "Z" (.int z) ∧ ¬ z = 0 ∧ 0 < len ∧ o + len ≤ A.slots.size ∧ len ≤ 536870912 ∧ ∀ i, i < len → ¬ 255 < cv A (o + i)
def E (a : Addr) (D : Cell) (fV fC : Field) (A : Cell) (o len : Nat) (r : Option Value) (s u : State) : Prop := Got a D fV fC A o len r s u
/-- len > 0, no char of the range above 255: a Latin-1 String of their low bytes -/
theorem law (l : Launch) (a : Addr) (D : Cell) (fV fC : Field) (b : Addr) (A : Cell) (z : Int32) (o len : Nat) : Law l yN 5 4 2 35 yB 6 none site (P a D fV fC b A z o len) (E a D fV fC A o len) [⟨a, fC.slot⟩, ⟨a, fV.slot⟩] 1 len := by
  refine Law.of_walk (plainFor_of_name (by decide +kernel)) (by decide +kernel) (by decide +kernel) (by decide) (fun _ _ h => by rw [h.1]; rfl) (fun _ U U' hal hh h => ⟨h.1, h.2.1.mv hal hh, h.2.2.1.al hal, h.2.2.2.1.al hal, h.2.2.2.2.1.mv hal hh, h.2.2.2.2.2.1.there hal hh, h.2.2.2.2.2.2⟩) (fun r U U' V V' h1 hal h2 h => Got.mv r U U' V V' h1 hal h2 h) ?_
  intro p e s m args below meth c s₁ X0 hexec hbytes hml hret hlk hnm hown hh0 W hP
  obtain ⟨rfl, hB, f1, f2, hA, s1, hz, l0, l1, l2, hp⟩ := hP
  have a31 := hA.1.2.2.2
  have c1 : Steps p.tables e below (s₁.setTop (entryFrame m #[.ref a, .ref b, .int (Int32.ofNat o), .int (Int32.ofNat len), .null] 6)) (s₁.setTop (mkF m 0 #[.val (.ref a), .val (.ref b), .val (.int (Int32.ofNat o)), .val (.int (Int32.ofNat len)), .val .null, .unset] [])) := entry rfl
  have c2 : Steps p.tables e below (s₁.setTop (entryFrame m #[.ref a, .ref b, .int (Int32.ofNat o), .int (Int32.ofNat len), .null] 6)) (s₁.setTop (mkF m 1 #[.val (.ref a), .val (.ref b), .val (.int (Int32.ofNat o)), .val (.int (Int32.ofNat len)), .val .null, .unset] [.ref a])) := c1.trans (by
    refine XS.aloadN X0.here hexec rfl (hb hbytes d0) rfl rfl ?_
    exact Steps.refl _)
  obtain ⟨T3, X3, q3, st3⟩ := X0.oinit hexec hown (wks W (objW "java/lang/String" 1)) (g := (mkF m 1 #[.val (.ref a), .val (.ref b), .val (.int (Int32.ofNat o)), .val (.int (Int32.ofNat len)), .val .null, .unset] [.ref a])) rfl (by rw [hml]; rfl) (rest := []) rfl (hb hbytes d1) (W := 0) (by show 2 * 0 + 0 ≤ _; decide) (Nat.le_of_ble_eq_true rfl) (Nat.le_of_ble_eq_true rfl)
  have hh3 := q3.trans hh0
  have c4 : Steps p.tables e below (s₁.setTop (entryFrame m #[.ref a, .ref b, .int (Int32.ofNat o), .int (Int32.ofNat len), .null] 6)) (T3.setTop (mkF m 27 #[.val (.ref a), .val (.ref b), .val (.int (Int32.ofNat o)), .val (.int (Int32.ofNat len)), .val .null, .unset] [])) := (c2.trans (st3 _ (Steps.refl _))).trans (by
    refine XS.iloadN X3.here hexec rfl (hb hbytes d4) rfl ?_
    refine XS.ifYes X3.here hexec rfl (pc0 := 5) rfl (hb hbytes d5) rfl (i0_ne_t (nz32 (by omega) l0)) (by decide) rfl ?_
    exact Steps.refl _)
  obtain ⟨T5, X5, q5, st5⟩ := X3.sget hexec hown (wk W (.fieldLink "java/lang/String" 38 "java/lang/String" "COMPACT_STRINGS" "Z")) s1 (fun _ _ h => by rw [hh3]; exact h) (g := (mkF m 27 #[.val (.ref a), .val (.ref b), .val (.int (Int32.ofNat o)), .val (.int (Int32.ofNat len)), .val .null, .unset] [])) rfl (hb hbytes d27)
  have hh5 := q5.trans hh3
  have c6 : Steps p.tables e below (s₁.setTop (entryFrame m #[.ref a, .ref b, .int (Int32.ofNat o), .int (Int32.ofNat len), .null] 6)) (T5.setTop (mkF m 30 #[.val (.ref a), .val (.ref b), .val (.int (Int32.ofNat o)), .val (.int (Int32.ofNat len)), .val .null, .unset] [.int z])) := c4.trans (st5 _ (Steps.refl _))
  have c7 : Steps p.tables e below (s₁.setTop (entryFrame m #[.ref a, .ref b, .int (Int32.ofNat o), .int (Int32.ofNat len), .null] 6)) (T5.setTop (mkF m 36 #[.val (.ref a), .val (.ref b), .val (.int (Int32.ofNat o)), .val (.int (Int32.ofNat len)), .val .null, .unset] [.int (Int32.ofNat len), .int (Int32.ofNat o), .ref b])) := c6.trans (by
    refine XS.ifNo X5.here hexec rfl (hb hbytes d30) rfl (i0_eq_f hz) ?_
    refine XS.aloadN X5.here hexec rfl (hb hbytes d33) rfl rfl ?_
    refine XS.iloadN X5.here hexec rfl (hb hbytes d34) rfl ?_
    refine XS.iloadN X5.here hexec rfl (hb hbytes d35) rfl ?_
    exact Steps.refl _)
  obtain ⟨v8, T8, X8, E8, g8⟩ := X5.callS hexec (Cmp3.law l b A o len) hown (wks W (staticW "java/lang/String" 177 Cmp3.yN)) (wk W Cmp3.tab) (W := 0) (Nat.le_of_ble_eq_true rfl) (Nat.le_of_ble_eq_true rfl) (Nat.le_refl _) (by show 0 + len ≤ len; omega) (g := (mkF m 36 #[.val (.ref a), .val (.ref b), .val (.int (Int32.ofNat o)), .val (.int (Int32.ofNat len)), .val .null, .unset] [.int (Int32.ofNat len), .int (Int32.ofNat o), .ref b])) rfl (by rw [hml]; rfl) c7 (argsL := [.ref b, .int (Int32.ofNat o), .int (Int32.ofNat len)]) (rest := []) rfl rfl (by show 2 * 0 + 0 ≤ _; decide) (hb hbytes d36) (⟨rfl, hA.mv X5.warmed.alike hh5, l1, l2, hp⟩)
  obtain ⟨e8, z8⟩ := E8
  obtain ⟨rfl, N, n1, n2, n3, n4, n5, n6⟩ := NewArr.mv _ T5 s _ _ hh5.symm (Vm.Alike.refl _) rfl e8
  rw [hh5] at z8
  have hB1 := hB.keep X8.warmed.alike (n6 _ _ hB.1)
  have hne : s.heap.size ≠ a := (Nat.ne_of_lt (Array.getElem?_eq_some_iff.mp hB.1).1).symm
  have c9 : Steps p.tables e below (s₁.setTop (entryFrame m #[.ref a, .ref b, .int (Int32.ofNat o), .int (Int32.ofNat len), .null] 6)) (T8.setTop (mkF m 39 #[.val (.ref a), .val (.ref b), .val (.int (Int32.ofNat o)), .val (.int (Int32.ofNat len)), .val .null, .unset] [.ref s.heap.size])) := g8
  have c10 : Steps p.tables e below (s₁.setTop (entryFrame m #[.ref a, .ref b, .int (Int32.ofNat o), .int (Int32.ofNat len), .null] 6)) (T8.setTop (mkF m 45 #[.val (.ref a), .val (.ref b), .val (.int (Int32.ofNat o)), .val (.int (Int32.ofNat len)), .val .null, .val (.ref s.heap.size)] [.int (Int32.ofNat N.slots.size), .ref s.heap.size, .ref a])) := by
    have hc : Steps p.tables e below (s₁.setTop (entryFrame m #[.ref a, .ref b, .int (Int32.ofNat o), .int (Int32.ofNat len), .null] 6)) (T8.setTop (mkF m 45 #[.val (.ref a), .val (.ref b), .val (.int (Int32.ofNat o)), .val (.int (Int32.ofNat len)), .val .null, .val (.ref s.heap.size)] [.int (Int32.ofNat len), .ref s.heap.size, .ref a])) := c9.trans (by
      refine XS.astore X8.here hexec rfl (hb hbytes d39) rfl rfl rfl ?_
      refine XS.aloadN X8.here hexec rfl (hb hbytes d41) rfl rfl ?_
      refine XS.aload X8.here hexec rfl (hb hbytes d42) rfl rfl ?_
      refine XS.iloadN X8.here hexec rfl (hb hbytes d44) rfl ?_
      exact Steps.refl _)
    rw [n4]; exact hc
  obtain ⟨v11, T11, X11, E11, g11⟩ := X8.callS hexec (CodL.law l s.heap.size N) hown (wks W (staticW "java/lang/String" 47 CodL.yN)) (wk W CodL.tab) (W := 1) (Nat.le_of_ble_eq_true rfl) (Nat.le_of_ble_eq_true rfl) (Nat.le_refl _) (by show 0 + len + 0 ≤ len; omega) (g := (mkF m 45 #[.val (.ref a), .val (.ref b), .val (.int (Int32.ofNat o)), .val (.int (Int32.ofNat len)), .val .null, .val (.ref s.heap.size)] [.int (Int32.ofNat N.slots.size), .ref s.heap.size, .ref a])) rfl (by rw [hml]; rfl) c10 (argsL := [.ref s.heap.size, .int (Int32.ofNat N.slots.size)]) (rest := [.ref a]) rfl rfl (by show 2 * 0 + (1 + 0) ≤ _; decide) (hb hbytes d45) (⟨rfl, n1⟩)
  obtain ⟨rfl, q11⟩ := E11
  have hB11 := hB1.mv (X8.warmed.alike.symm.trans X11.warmed.alike) q11
  have c12 : Steps p.tables e below (s₁.setTop (entryFrame m #[.ref a, .ref b, .int (Int32.ofNat o), .int (Int32.ofNat len), .null] 6)) (T11.setTop (mkF m 48 #[.val (.ref a), .val (.ref b), .val (.int (Int32.ofNat o)), .val (.int (Int32.ofNat len)), .val .null, .val (.ref s.heap.size)] [.int 0, .ref a])) := g11
  obtain ⟨T13, X13, p13, bl13, sl13, st13⟩ := X11.finit hexec hown (wk W (.fieldLink "java/lang/String" 15 "java/lang/String" "coder" "B")) (Or.inr ⟨_, (wk W (.laysFinal "java/lang/String" "java/lang/String" "coder" "B"))⟩) (Or.inl ⟨rfl, hnm⟩) f2 (Or.inl rfl) hB11 (t := .byte) (by decide +kernel) rfl (g := (mkF m 48 #[.val (.ref a), .val (.ref b), .val (.int (Int32.ofNat o)), .val (.int (Int32.ofNat len)), .val .null, .val (.ref s.heap.size)] [.int 0, .ref a])) rfl (rest := []) rfl (hb hbytes d48)
  have c14 : Steps p.tables e below (s₁.setTop (entryFrame m #[.ref a, .ref b, .int (Int32.ofNat o), .int (Int32.ofNat len), .null] 6)) (T13.setTop (mkF m 54 #[.val (.ref a), .val (.ref b), .val (.int (Int32.ofNat o)), .val (.int (Int32.ofNat len)), .val .null, .val (.ref s.heap.size)] [.ref s.heap.size, .ref a])) := (c12.trans (st13 _ (Steps.refl _))).trans (by
    refine XS.aloadN X13.here hexec rfl (hb hbytes d51) rfl rfl ?_
    refine XS.aload X13.here hexec rfl (hb hbytes d52) rfl rfl ?_
    exact Steps.refl _)
  obtain ⟨T15, X15, p15, bl15, sl15, st15⟩ := X13.finit hexec hown (wk W (.fieldLink "java/lang/String" 9 "java/lang/String" "value" "[B")) (Or.inr ⟨_, (wk W (.laysFinal "java/lang/String" "java/lang/String" "value" "[B"))⟩) (Or.inl ⟨rfl, hnm⟩) f1 (Or.inl rfl) bl13 (t := (.array .byte)) (by decide +kernel) rfl (g := (mkF m 54 #[.val (.ref a), .val (.ref b), .val (.int (Int32.ofNat o)), .val (.int (Int32.ofNat len)), .val .null, .val (.ref s.heap.size)] [.ref s.heap.size, .ref a])) rfl (rest := []) rfl (hb hbytes d54)
  have c16 : Steps p.tables e below (s₁.setTop (entryFrame m #[.ref a, .ref b, .int (Int32.ofNat o), .int (Int32.ofNat len), .null] 6)) (T15.setTop (mkF m 57 #[.val (.ref a), .val (.ref b), .val (.int (Int32.ofNat o)), .val (.int (Int32.ofNat len)), .val .null, .val (.ref s.heap.size)] [])) := c14.trans (st15 _ (Steps.refl _))
  have ap := apart (Or.inr ⟨_, (wk W (.laysFinal "java/lang/String" "java/lang/String" "value" "[B"))⟩) (Or.inr ⟨_, (wk W (.laysFinal "java/lang/String" "java/lang/String" "coder" "B"))⟩) f1 f2 (t₁ := .array .byte) (t₂ := .byte) (by decide +kernel) (by decide +kernel) (by decide)
  have al := X8.warmed.alike.symm.trans X15.warmed.alike
  have n7 : T11.heap[s.heap.size]? = some N := by rw [q11]; exact n1.1
  exact ⟨T15, none, _, _, _, X15, by simp, rfl, by omega, (fun _ => rfl), ⟨rfl, _, N, bl15, ((Same.refl D _).set _ (by simp)).set _ (by simp), sl15, (Cell.slots_setSlot_ne _ ap).trans sl13, n1.keep al (p15.other hne (p13.other hne n7)), n2, by rw [al.findClass]; exact n3, n4, n5, fun y c h1 h2 => p15.other h1 (p13.other h1 (by rw [q11]; exact n6 y c h2)), by rw [p15.2.2, p13.2.2, q11]; exact z8⟩, fun fs hl => c16.trans (X15.returnOut hexec hret (hb hbytes d57) hl)⟩
end New4
namespace New1
def yN : MethodName := ⟨"java/lang/String", "<init>", "([C)V"⟩
abbrev yB : ByteArray := jdk_42_method_3_code
theorem d0 : decode yB 0 = .ok (.aload_n 0, 1) := by decide +kernel
theorem d1 : decode yB 1 = .ok (.aload_n 1, 1) := by decide +kernel
theorem d2 : decode yB 2 = .ok (.iconst 0, 1) := by decide +kernel
theorem d3 : decode yB 3 = .ok (.aload_n 1, 1) := by decide +kernel
theorem d4 : decode yB 4 = .ok (.arraylength, 1) := by decide +kernel
theorem d5 : decode yB 5 = .ok (.aconst_null, 1) := by decide +kernel
theorem d6 : decode yB 6 = .ok (.invokespecial 27, 3) := by decide +kernel
theorem d9 : decode yB 9 = .ok (.return_, 1) := by decide +kernel
def site : List Cond := [New4.tab] ++ initW "java/lang/String" 27 New4.yN
def tab : Cond := tabOf yN yB 2 none site
def P (a : Addr) (D : Cell) (fV fC : Field) (b : Addr) (A : Cell) (z : Int32) (args : Array Value) (s : State) : Prop := args = #[.ref a, .ref b] ∧ Blank "java/lang/String" a D s ∧ Found "java/lang/String" "value" "[B" fV s ∧ Found "java/lang/String" "coder" "B" fC s ∧ Ch b A s ∧ StaticIs s "java/lang/String" "COMPACT_STRINGS" "Z" (.int z) ∧ ¬ z = 0 ∧ 0 < A.slots.size ∧ A.slots.size ≤ 536870912 ∧ ∀ i, i < A.slots.size → ¬ 255 < cv A i
def E (a : Addr) (D : Cell) (fV fC : Field) (A : Cell) (r : Option Value) (s u : State) : Prop := Got a D fV fC A 0 A.slots.size r s u
/-- new String(chars), not empty, no char above 255: a Latin-1 String of their low bytes -/
theorem law (l : Launch) (a : Addr) (D : Cell) (fV fC : Field) (b : Addr) (A : Cell) (z : Int32) : Law l yN 2 1 3 52 yB 2 none site (P a D fV fC b A z) (E a D fV fC A) [⟨a, fC.slot⟩, ⟨a, fV.slot⟩] 1 A.slots.size := by
  refine Law.of_walk (plainFor_of_name (by decide +kernel)) (by decide +kernel) (by decide +kernel) (by decide) (fun _ _ h => by rw [h.1]; rfl) (fun _ U U' hal hh h => ⟨h.1, h.2.1.mv hal hh, h.2.2.1.al hal, h.2.2.2.1.al hal, h.2.2.2.2.1.mv hal hh, h.2.2.2.2.2.1.there hal hh, h.2.2.2.2.2.2⟩) (fun r U U' V V' h1 hal h2 h => Got.mv r U U' V V' h1 hal h2 h) ?_
  intro p e s m args below meth c s₁ X0 hexec hbytes hml hret hlk hnm hown hh0 W hP
  obtain ⟨rfl, hB, f1, f2, hA, s1, hz, l0, l2, hp⟩ := hP
  have c1 : Steps p.tables e below (s₁.setTop (entryFrame m #[.ref a, .ref b] 2)) (s₁.setTop (mkF m 0 #[.val (.ref a), .val (.ref b)] [])) := entry rfl
  have c2 : Steps p.tables e below (s₁.setTop (entryFrame m #[.ref a, .ref b] 2)) (s₁.setTop (mkF m 6 #[.val (.ref a), .val (.ref b)] [.null, .int (Int32.ofNat A.slots.size), .int 0, .ref b, .ref a])) := c1.trans (by
    refine XS.aloadN X0.here hexec rfl (hb hbytes d0) rfl rfl ?_
    refine XS.aloadN X0.here hexec rfl (hb hbytes d1) rfl rfl ?_
    refine iconstV X0.here hexec rfl 0 (hb hbytes d2) (by decide) ?_
    refine XS.aloadN X0.here hexec rfl (hb hbytes d3) rfl rfl ?_
    refine X0.alen hexec (hA.1.mv X0.warmed.alike hh0) rfl rfl (hb hbytes d4) ?_
    refine XS.aconstNull X0.here hexec rfl (hb hbytes d5) ?_
    exact Steps.refl _)
  obtain ⟨v3, T3, X3, E3, g3⟩ := X0.callN hexec (New4.law l a D fV fC b A z 0 A.slots.size) rfl hown (wks W (initW "java/lang/String" 27 New4.yN)) (W New4.tab (by simp only [site, List.mem_cons, List.mem_append, true_or, or_true])) (W := 0) (Nat.le_of_ble_eq_true rfl) (Nat.le_of_ble_eq_true rfl) (Nat.le_refl _) (by show 0 + A.slots.size ≤ A.slots.size; omega) (g := (mkF m 6 #[.val (.ref a), .val (.ref b)] [.null, .int (Int32.ofNat A.slots.size), .int (Int32.ofNat 0), .ref b, .ref a])) rfl (by rw [hml]; rfl) c2 (argsL := [.ref b, .int (Int32.ofNat 0), .int (Int32.ofNat A.slots.size), .null]) (rest := []) rfl rfl (by show 2 * 0 + 0 ≤ _; decide) (hb hbytes d6) (⟨rfl, hB.mv X0.warmed.alike hh0, f1.al X0.warmed.alike, f2.al X0.warmed.alike, hA.mv X0.warmed.alike hh0, s1.there X0.warmed.alike hh0, hz, l0, by omega, l2, fun i hi => by rw [Nat.zero_add]; exact hp i hi⟩)
  have e0 := Got.mv _ s₁ s _ _ hh0.symm (Vm.Alike.refl _) rfl E3
  obtain rfl := e0.1
  have c4 : Steps p.tables e below (s₁.setTop (entryFrame m #[.ref a, .ref b] 2)) (T3.setTop (mkF m 9 #[.val (.ref a), .val (.ref b)] [])) := g3
  exact ⟨T3, none, _, _, _, X3, by simp, rfl, by omega, (fun _ => rfl), e0, fun fs hl => c4.trans (X3.returnOut hexec hret (hb hbytes d9) hl)⟩
theorem pays {l : Launch} {R : Room} {p : Program} {e : Env} {below : List Frame} {s : State} {sargs : Array Value} {len W : Nat} (a : Addr) (D : Cell) (fV fC : Field) (b : Addr) (A : Cell) (z : Int32) (htab : tab.before sargs s = true) (hfr : 4 ≤ R.frames) (hlo : W + 65 ≤ R.locals) :
    Back l R p e below s sargs yN len W (fun A₁ a₁ => A₁.cells + 1 ≤ R.cells ∧ A₁.slots + A.slots.size ≤ R.slots ∧ P a D fV fC b A z a₁ A₁.U) (fun A₁ _ v₁ B₁ => E a D fV fC A v₁ A₁.U B₁.U ∧ B₁.locs = A₁.locs ++ [⟨a, fC.slot⟩, ⟨a, fV.slot⟩] ∧ B₁.cells = A₁.cells + 1 ∧ B₁.slots = A₁.slots + A.slots.size) :=
  (law l a D fV fC b A z).pays htab hfr (by omega)
end New1
end StrChars
namespace StrChars.Road
open Jvm Sem ClassFile Op Lib Jvm.Stand Jvm.Free Jvm.Free.XT
open Jvm.Lib.Cold (StaticIs)
abbrev ST : String := "java/lang/String"
/-- every table word that New1's law asks, flat -/
abbrev words : List Jvm.Cond := [.code New1.yN New1.yB 2 none, .initialized ST, .methodLink ST 27 New4.yN, .instanceMethod New4.yN,
  .code New4.yN New4.yB 6 none, .fieldLink ST 38 ST "COMPACT_STRINGS" "Z", .laysFinal ST ST "value" "[B", .fieldLink ST 9 ST "value" "[B", .laysFinal ST ST "coder" "B", .fieldLink ST 15 ST "coder" "B",
  .methodLink ST 1 Lib.objectInit, .instanceMethod Lib.objectInit, .code Lib.objectInit ⟨#[0xb1]⟩ 1 none, .methodLink ST 177 Cmp3.yN, .static Cmp3.yN, .methodLink ST 47 CodL.yN, .static CodL.yN,
  .code Cmp3.yN Cmp3.yB 6 (some (.array .byte)), .initialized U16, .arrayClass .byte, .methodLink U16 115 Cmp5.yN, .static Cmp5.yN, .code Cmp5.yN Cmp5.yB 7 (some .int), .code CodL.yN CodL.yB 2 (some .byte)]
theorem tab_of {a : Array Value} {s : State} (h : ∀ w ∈ words, w.before a s = true) : New1.tab.before a s = true := by
  have h5 : Cmp5.tab.before a s = true := unparts (wk h (.code Cmp5.yN Cmp5.yB 7 (some .int))) (wks h (.initialized Cmp5.yN.cls :: Cmp5.site))
  have hc : CodL.tab.before a s = true := unparts (wk h (.code CodL.yN CodL.yB 2 (some .byte))) (wks h (.initialized CodL.yN.cls :: CodL.site))
  have q5 : ∀ w ∈ Cmp5.tab :: words, w.before a s = true := fun w hw => (List.mem_cons.mp hw).elim (fun e => e ▸ h5) (h w)
  have h3 : Cmp3.tab.before a s = true := unparts (wk q5 (.code Cmp3.yN Cmp3.yB 6 (some (.array .byte)))) (wks q5 (.initialized Cmp3.yN.cls :: Cmp3.site))
  have q3 : ∀ w ∈ Cmp3.tab :: CodL.tab :: words, w.before a s = true := fun w hw => (List.mem_cons.mp hw).elim (fun e => e ▸ h3) fun hw => (List.mem_cons.mp hw).elim (fun e => e ▸ hc) (h w)
  have h4 : New4.tab.before a s = true := unparts (wk q3 (.code New4.yN New4.yB 6 none)) (wks q3 (.initialized New4.yN.cls :: New4.site))
  have q4 : ∀ w ∈ New4.tab :: words, w.before a s = true := fun w hw => (List.mem_cons.mp hw).elim (fun e => e ▸ h4) (h w)
  exact unparts (wk q4 (.code New1.yN New1.yB 2 none)) (wks q4 (.initialized New1.yN.cls :: New1.site))
/-- the words ride from the start Z to the walk's own state -/
theorem moved {Z s : State} {a0 args : Array Value} (hZ : Z.Warmed39 s.vm) (hw : ∀ d ∈ words, d.before a0 Z = true) : ∀ d ∈ words, d.before args s = true := fun d hd => by
  have q := hw d hd
  have t : ∀ d ∈ words, d = .arrayClass .byte ∨ (d.onTables && d.keepsFace) = true := by decide +kernel
  rcases t d hd with rfl | t
  · exact RoadKit.mvA hZ q
  · exact RoadKit.mv hZ q t
/-- WHAT COMES BACK, over the tables of the start Z: h the heap at the call, h' behind it -/
def Q (Z : State) (x : Addr) (A : Cell) (h : Heap) (v : Option Value) (h' : Heap) (L : List Loc) : Prop := v = none ∧ (∀ y ∈ L, y.base = x) ∧ RoadKit.Keep h h' [x] ∧ h'.size = h.size + 1 ∧ RoadKit.Exa Z h' x ST ∧ RoadKit.Fld Z h' x ST "value" "[B" (.ref h.size) ∧ RoadKit.Fld Z h' x ST "coder" "B" (.int 0) ∧
  (∃ V : Cell, RoadKit.Arr Z h' h.size V .byte ∧ V.vm = .none ∧ Z.vm.findClass "[B" = some V.cls ∧ V.slots.size = A.slots.size ∧ ∀ j, j < A.slots.size → V.slots[j]? = some (.int (lo8 (cv A j)))) ∧
  ∀ (O n d : String) (w : Value), RoadKit.Fld Z h x O n d w → RoadKit.slotOf Z O n d ≠ RoadKit.slotOf Z ST "value" "[B" → RoadKit.slotOf Z O n d ≠ RoadKit.slotOf Z ST "coder" "B" → RoadKit.Fld Z h' x O n d w
/-- **new String(chars) AT A CALL, IN THE ROAD'S FORM**: for specialBack behind newO: x the fresh String, b the char[] with the cell A -/
theorem back {p : Program} {l : Launch} {e : Env} {R : Room} {s : State} {args : Array Value} {below : List Frame} {len W : Nat} {Z : State} {a0 : Array Value} {h : Heap} (hZ : Z.Warmed39 s.vm) (hw : ∀ d ∈ words, d.before a0 Z = true) {kI : Nat} (wi : (Jvm.Cond.instantiable ST kI).before a0 Z = true)
    {x b : Addr} {A : Cell} {z : Int32} {v0 c0 : Value} (E : RoadKit.Exa Z h x ST) (V : RoadKit.Fld Z h x ST "value" "[B" v0) (C : RoadKit.Fld Z h x ST "coder" "B" c0) (K : RoadKit.Arr Z h b A .char) (hty : Typed .char A) (S : RoadKit.Sta Z h ST "COMPACT_STRINGS" "Z" (.int z)) (hz : ¬ z = 0)
    (l0 : 0 < A.slots.size) (l2 : A.slots.size ≤ 536870912) (hp : ∀ i, i < A.slots.size → ¬ 255 < cv A i) (hfr : 4 ≤ R.frames) (hlo : W + 65 ≤ R.locals) :
    Back l R p e below s args New1.yN len W (fun P a => a = #[.ref x, .ref b] ∧ P.U.heap = h ∧ P.cells + 1 ≤ R.cells ∧ P.slots + A.slots.size ≤ R.slots)
      (fun P _ v B => ∃ L, Q Z x A h v B.U.heap L ∧ B.locs = P.locs ++ L ∧ B.cells = P.cells + 1 ∧ B.slots = P.slots + A.slots.size) := by
  intro m meth c P g ig mk a X hg hsize hdg hW hn hp'
  obtain ⟨rfl, rfl, r1, r2⟩ := hp'
  have al : Z.vm.Alike P.U.vm := hZ.alike.trans X.warmed.alike
  obtain ⟨D, cfV, kV, iV, fV, hD, gV, stV, knV, obV, asV, slV⟩ := id V
  obtain ⟨D', cfC, kC, iC, fC, hD', gC, stC, -, -, asC, slC⟩ := id C
  cases hD.symm.trans hD'
  obtain ⟨D2, kD, e1, e2, e3, e4, e5⟩ := id E
  cases hD.symm.trans e1
  obtain ⟨c2, k2, i1, i2, i3, -⟩ := Cond.instantiable_spec wi
  cases e2.symm.trans i1
  cases e3.symm.trans i2
  obtain ⟨kU, u1, u2⟩ := al.2.2 _ _ e3
  have hB : Blank ST x D P.U := ⟨hD, ⟨knV, fun q hq => by rw [hq] at obV; cases obV⟩, by rw [al.findClass]; exact e2, kU, u1, by rw [u2]; exact i3, by rw [u2]; exact e5 i3⟩
  have F1 : Found ST "value" "[B" fV P.U := ⟨SBG.found_only al ⟨cfV, kV, iV, gV⟩, stV⟩
  have F2 : Found ST "coder" "B" fC P.U := ⟨SBG.found_only al ⟨cfC, kC, iC, gC⟩, stC⟩
  have hA : Ch b A P.U := ⟨⟨K.1, State.isArrayOf_alike al K.2.1, K.2.2, by omega⟩, hty⟩
  have hS : StaticIs P.U ST "COMPACT_STRINGS" "Z" (.int z) := by
    obtain ⟨cfS, iS, kS, fS, st, cS, t1, t2, t3, t4, t5, t6, t7⟩ := S
    exact StaticIs.there (s := { Z with heap := P.U.heap }) ⟨cfS, iS, kS, fS, st, cS, t1, t2, t3, t4, t5, (fun q => by rw [q] at t6; cases t6), t7⟩ al rfl
  obtain ⟨v, B, X', ⟨⟨hv, E', V', q1, q2, q3, q4, q5, q6, q7, q8, q9, q10, q11⟩, hl, hc, hs⟩, st⟩ := New1.pays x D fV fC b A z (tab_of (moved hZ hw)) hfr hlo m meth c P g ig mk _ X hg hsize hdg hW hn ⟨r1, r2, rfl, hB, F1, F2, hA, hS, hz, l0, l2, hp⟩
  have al' : Z.vm.Alike B.U.vm := hZ.alike.trans X'.warmed.alike
  have hsz : E'.slots.size = D.slots.size := by
    obtain ⟨-, -, -, kB, w1, w2, w3⟩ := q1
    obtain ⟨kB', y1, y2⟩ := al'.2.2 _ _ e3
    rw [q2.2.1] at w1
    cases w1.symm.trans y1
    rw [w3, e5 i3, y2]
  refine ⟨v, B, X', ⟨_, ⟨hv, ?_, ⟨by omega, fun y cy hy hn' => q10 y cy (by simpa using hn') hy, fun y cy hy => ?_⟩, q11, ⟨E', _, q1.1, by rw [q2.2.1]; exact e2, by rw [q2.2.1]; exact e3, by rw [q2.1]; exact obV, fun _ => by rw [hsz]; exact e5 i3⟩,
    ⟨E', cfV, kV, iV, fV, q1.1, gV, stV, by rw [q2.1]; exact knV, by rw [q2.1]; exact obV, by rw [q2.2.1]; exact asV, q3⟩, ⟨E', cfC, kC, iC, fC, q1.1, gC, stC, by rw [q2.1]; exact knV, by rw [q2.1]; exact obV, by rw [q2.2.1]; exact asC, q4⟩,
    ⟨V', ⟨q5.1, State.isArrayOf_alike al'.symm q5.2.1, q5.2.2.1⟩, q6, by rw [← al'.findClass]; exact q7, q8, fun j hj => by have := q9 j hj; rwa [Nat.zero_add] at this⟩, fun O n d w F n1 n2 => ?_⟩, hl, hc, hs⟩, st⟩
  · intro y hy
    simp only [List.mem_cons, List.not_mem_nil, or_false] at hy
    rcases hy with rfl | rfl <;> rfl
  · by_cases q : y = x
    · subst q
      cases hD.symm.trans hy
      exact ⟨E', q1.1, q2.2.1, q2.1, hsz⟩
    · exact ⟨cy, q10 y cy q hy, rfl, rfl, rfl⟩
  · obtain ⟨D3, cf, k, i, f, g1, g2, g3, g4, g5, g6, g7⟩ := F
    cases hD.symm.trans g1
    simp only [RoadKit.slotOf, g2, gV, gC, Option.map_some, Option.getD_some] at n1 n2
    exact ⟨E', cf, k, i, f, q1.1, g2, g3, by rw [q2.1]; exact g4, by rw [q2.1]; exact g5, by rw [q2.2.1]; exact g6, by rw [q2.2.2 f.slot (by simp [n1, n2])]; exact g7⟩
end StrChars.Road
namespace StrChars.Road
open Jvm Sem ClassFile Op Lib Jvm.Stand Jvm.Free Jvm.Free.XT
/-- WHAT COMES BACK, the byte[] as a list of values -/
def QA (Z : State) (x : Addr) (zn : Int32) (cs : List Int32) (h : Heap) (v : Option Value) (h' : Heap) (L : List Loc) : Prop := v = none ∧ (∀ y ∈ L, y.base = x) ∧ RoadKit.Keep h h' [x] ∧ h'.size = h.size + 1 ∧ RoadKit.Exa Z h' x ST ∧ RoadKit.Fld Z h' x ST "value" "[B" (.ref h.size) ∧ RoadKit.Fld Z h' x ST "coder" "B" (.int 0) ∧
  (∃ kb, Z.vm.findClass "[B" = some kb ∧ RoadKit.Arv Z h' h.size kb .byte zn (cs.map fun c => .int (lo8 c)) (.int 0)) ∧
  ∀ (O n d : String) (w : Value), RoadKit.Fld Z h x O n d w → RoadKit.slotOf Z O n d ≠ RoadKit.slotOf Z ST "value" "[B" → RoadKit.slotOf Z O n d ≠ RoadKit.slotOf Z ST "coder" "B" → RoadKit.Fld Z h' x O n d w
/-- **new String(chars) AT A CALL, THE ARRAYS AS LISTS**: the char[] at b holds cs, not empty, no char above 255 -/
theorem backArv {p : Program} {l : Launch} {e : Env} {R : Room} {s : State} {args : Array Value} {below : List Frame} {len W : Nat} {Z : State} {a0 : Array Value} {h : Heap} (hZ : Z.Warmed39 s.vm) (hw : ∀ d ∈ words, d.before a0 Z = true) {kI : Nat} (wi : (Jvm.Cond.instantiable ST kI).before a0 Z = true)
    {x b : Addr} {k : ClassId} {zn z : Int32} {cs : List Int32} {dv v0 c0 : Value} (E : RoadKit.Exa Z h x ST) (V : RoadKit.Fld Z h x ST "value" "[B" v0) (C : RoadKit.Fld Z h x ST "coder" "B" c0) (K : RoadKit.Arv Z h b k .char zn (cs.map Value.int) dv) (S : RoadKit.Sta Z h ST "COMPACT_STRINGS" "Z" (.int z)) (hz : ¬ z = 0)
    (hlen : zn.toNatClampNeg = cs.length) (h0 : 0 < cs.length) (hbig : cs.length ≤ 536870912) (hall : ∀ c ∈ cs, ¬ 255 < c) (hfr : 4 ≤ R.frames) (hlo : W + 65 ≤ R.locals) :
    Back l R p e below s args New1.yN len W (fun P a => a = #[.ref x, .ref b] ∧ P.U.heap = h ∧ P.cells + 1 ≤ R.cells ∧ P.slots + cs.length ≤ R.slots)
      (fun P _ v B => ∃ L, QA Z x zn cs h v B.U.heap L ∧ B.locs = P.locs ++ L ∧ B.cells = P.cells + 1 ∧ B.slots = P.slots + cs.length) := by
  obtain ⟨A, K1, K2, K3, K4, K5, K6⟩ := K
  have e : A.slots.size = cs.length := K3.trans hlen
  have hat : ∀ (i : Nat) (hi : i < cs.length), A.slots[i]? = some (.int cs[i]) := fun i hi => by rw [K5 i (by omega)]; simp [List.getD_eq_getElem?_getD, hi]
  have hcv : ∀ (i : Nat) (hi : i < cs.length), cv A i = cs[i] := fun i hi => by unfold cv; rw [hat i hi]
  have hty : Typed .char A := fun i v hv => by
    have hi : i < A.slots.size := (Array.getElem?_eq_some_iff.mp hv).1
    have q := K5 i hi
    rw [hv] at q
    rw [Option.some.inj q]
    exact K6 i hi
  refine Back.mono (back hZ hw wi E V C K1 hty S hz (by omega) (by omega) (fun i hi => by rw [hcv i (by omega)]; exact hall _ (List.getElem_mem _)) hfr hlo) (fun P a hp => ⟨hp.1, hp.2.1, hp.2.2.1, by rw [e]; exact hp.2.2.2⟩) (fun P a v B hp hq => ?_)
  obtain ⟨L, ⟨q1, q2, q3, q4, q5, q6, q7, ⟨V', v1, v2, v3, v4, v5⟩, q9⟩, hl, hc, hs⟩ := hq
  refine ⟨L, ⟨q1, q2, q3, q4, q5, q6, q7, ⟨V'.cls, v3, V', v1, rfl, by rw [v4, e, hlen], K4, fun i hi => ?_, fun i hi => ?_⟩, q9⟩, hl, hc, by rw [hs, e]⟩
  · have hi' : i < cs.length := by omega
    rw [v5 i (by omega), hcv i hi']; simp [List.getD_eq_getElem?_getD, hi']
  · have hi' : i < cs.length := by omega
    simp only [List.getD_eq_getElem?_getD, List.getElem?_map, List.getElem?_eq_getElem hi', Option.map_some, Option.getD_some]
    exact fits_lo8 _
end StrChars.Road
namespace StrChars.Road
open Jvm Sem ClassFile Op Lib Jvm.Stand Jvm.Free Jvm.Free.XT
/-- WHAT COMES BACK, in the writer's own shape -/
def QV (Z : State) (x : Addr) (N : Int32) (bs : List Int32) (h : Heap) (n0 : Nat) (v : Option Value) (h' : Heap) (L : List Loc) : Prop := v = none ∧ RoadKit.Fr n0 L ∧ RoadKit.Keep h h' [x] ∧ RoadKit.Exa Z h' x ST ∧ RoadKit.Fld Z h' x ST "coder" "B" (.int 0) ∧
  ∃ (t : Addr) (kb : ClassId), n0 ≤ t ∧ h.size ≤ t ∧ ¬ t = x ∧ RoadKit.Fld Z h' x ST "value" "[B" (.ref t) ∧ RoadKit.Arv Z h' t kb .byte N (bs.map Value.int) (.int 0)
/-- **new String(chars) AT A CALL, FOR THE WRITER**: a char[] of n known ints, each 0 to 255 -/
theorem backV {p : Program} {l : Launch} {e : Env} {R : Room} {s : State} {args : Array Value} {below : List Frame} {len W : Nat} {Z : State} {a0 : Array Value} {h : Heap} (hZ : Z.Warmed39 s.vm) (hw : ∀ d ∈ words, d.before a0 Z = true) {kI : Nat} (wi : (Jvm.Cond.instantiable ST kI).before a0 Z = true)
    {x b : Addr} {kC : ClassId} {cs bs : List Int32} {d v0 c0 : Value} {z N : Int32} {n n0 : Nat} (hx0 : n0 ≤ x) (hh0 : n0 ≤ h.size) (E : RoadKit.Exa Z h x ST) (V : RoadKit.Fld Z h x ST "value" "[B" v0) (C : RoadKit.Fld Z h x ST "coder" "B" c0) (K : RoadKit.Arv Z h b kC .char N (cs.map Value.int) d) (S : RoadKit.Sta Z h ST "COMPACT_STRINGS" "Z" (.int z)) (hz : ¬ z = 0)
    (hn : cs.length = n) (hN : N = Int32.ofNat n) (l0 : 0 < n) (l2 : n ≤ 4000) (hp : ∀ c ∈ cs, ¬ c < 0 ∧ ¬ (255 : Int32) < c) (hb : bs = cs.map (fun c => c.toInt8.toInt32)) (hfr : 4 ≤ R.frames) (hlo : W + 65 ≤ R.locals) :
    Back l R p e below s args (⟨"java/lang/String", "<init>", "([C)V"⟩ : MethodName) len W (fun P a => a = #[.ref x, .ref b] ∧ P.U.heap = h ∧ P.cells + 1 ≤ R.cells ∧ P.slots + n ≤ R.slots)
      (fun P _ v B => ∃ L, QV Z x N bs h n0 v B.U.heap L ∧ B.locs = P.locs ++ L ∧ B.cells = P.cells + 1 ∧ B.slots = P.slots + n) := by
  subst hn hN hb
  refine Back.mono (backArv hZ hw wi E V C K S hz (n32 (by omega)) l0 (by omega) (fun c hc => (hp c hc).2) hfr hlo) (fun P a hp => hp) (fun P a v B hp hq => ?_)
  obtain ⟨L, ⟨q1, q2, q3, q4, q5, q6, q7, ⟨kb, v1, v2⟩, q9⟩, hl, hc, hs⟩ := hq
  exact ⟨L, ⟨q1, fun y hy => by rw [q2 y hy]; exact hx0, q3, q5, q7, h.size, kb, hh0, Nat.le_refl _, Nat.ne_of_gt E.lt, q6, by rw [List.map_map]; exact v2⟩, hl, hc, hs⟩
end StrChars.Road
end Jvm.Pilot.@@N@@

namespace Jvm.Pilot.@@N@@
open Jvm Jvm.ClassFile Sem Op Lib Jvm.Free Jvm.Stand Jvm.LawKit Jvm.RoadKit Bundle Jvm.Pilot.@@N@@.Jvm.D
abbrev vi (n : Int32) : Slot := .val (.int n)
abbrev vj (n : Int64) : Slot := .val (.long n)
abbrev vr (a : Addr) : Slot := .val (.ref a)
theorem cat_i (n : Int32) : (Value.int n).category = 1 := rfl
theorem cat_j (n : Int64) : (Value.long n).category = 2 := rfl
theorem cat_r (a : Addr) : (Value.ref a).category = 1 := rfl
theorem cat_n : Value.null.category = 1 := rfl
theorem wq {Z : State} {a0 : Array Value} (hw : ∀ d ∈ tables_1, d.before a0 Z = true) (i : Nat) {d : Cond} (h : tables_1[i]? = some d) : d.before a0 Z = true := hw d (List.mem_of_getElem? h)
/-- what is said of the start -/
def Wd (Z : State) (a0 : Array Value) : Prop := (∀ d ∈ tables_1, d.before a0 Z = true) ∧ (∃ z : Int32, Sta Z Z.heap "java/lang/String" "COMPACT_STRINGS" "Z" (.int z) ∧ ¬ z = 0) ∧ (∃ k0 k1 k2 k3 kr : Addr, Sta Z Z.heap "com/example/driftkey/driftkey/request/ErrorType" "MAPPER_PARSING" "Lcom/example/driftkey/driftkey/request/ErrorType;" (.ref k0) ∧ Sta Z Z.heap "com/example/driftkey/driftkey/request/ErrorType" "PARSING" "Lcom/example/driftkey/driftkey/request/ErrorType;" (.ref k1) ∧ Sta Z Z.heap "com/example/driftkey/driftkey/request/ErrorType" "ILLEGAL_ARGUMENT" "Lcom/example/driftkey/driftkey/request/ErrorType;" (.ref k2) ∧ Sta Z Z.heap "com/example/driftkey/driftkey/request/ErrorType" "TOO_MANY_BUCKETS" "Lcom/example/driftkey/driftkey/request/ErrorType;" (.ref k3) ∧ Sta Z Z.heap "com/example/driftkey/driftkey/storage/WriteResult$Outcome" "REFUSED" "Lcom/example/driftkey/driftkey/storage/WriteResult$Outcome;" (.ref kr)) ∧ (∃ ust sen : Value, (Sta Z Z.heap "java/lang/Throwable" "UNASSIGNED_STACK" "[Ljava/lang/StackTraceElement;" ust ∧ ust.isRef = true) ∧ (Sta Z Z.heap "java/lang/Throwable" "SUPPRESSED_SENTINEL" "Ljava/util/List;" sen ∧ sen.isRef = true))
def EL : List (String × Nat) := [("java/lang/String", 7)]
theorem el_of {Z : State} {a0 : Array Value} (hw : ∀ d ∈ tables_1, d.before a0 Z = true) : EW Z a0 EL := (EW.cons (wq hw 24 rfl) (by decide) EW.nil)
theorem words_sa : ∀ d ∈ Bundle.stringAtoms, d ∈ tables_1 := by decide +kernel
theorem words_new : ∀ d ∈ StrChars.Road.words, d ∈ tables_1 := by decide +kernel
-- java/lang/StringLatin1.canEncode:(C)Z
def Q_canEncode (Z : State) (ch : Int32) (h0 : Heap) (v : Option Value) (h : Heap) (L : List Loc) : Prop := v = some (.int 1) ∧ Fr Z.heap.size L ∧ h = h0
theorem ef_canEncode (m : MethodId) (ch : Int32) : entryFrame m #[(.int ch)] 1 = mkF m 0 #[vi ch] [] := by first | (simp [entryFrame, mkF, argsToLocals, Value.category, vi, vj, vr]; done) | rfl
theorem pn_0 : plainName "java/lang/StringLatin1" = true := by first | (simp [plainName, overriddenIn]; done) | decide +kernel
theorem d_jdk_43_3_0 : decode jdk_43_method_3_code 0 = .ok (.iload_n 0, 1) := by decide +kernel
theorem d_jdk_43_3_1 : decode jdk_43_method_3_code 1 = .ok (.sipush 255, 3) := by decide +kernel
theorem d_jdk_43_3_4 : decode jdk_43_method_3_code 4 = .ok (.if_icmp .gt 7, 3) := by decide +kernel
theorem d_jdk_43_3_7 : decode jdk_43_method_3_code 7 = .ok (.iconst 1, 1) := by decide +kernel
theorem d_jdk_43_3_8 : decode jdk_43_method_3_code 8 = .ok (.goto 4, 3) := by decide +kernel
theorem d_jdk_43_3_12 : decode jdk_43_method_3_code 12 = .ok (.ireturn, 1) := by decide +kernel
set_option maxRecDepth 65536 in
set_option maxHeartbeats 40000000 in
theorem rm_canEncode (l : Launch) {Z : State} {a0 : Array Value} (hD : Wd Z a0) (ch : Int32) {h0 : Heap} (O0 : Ext Z.heap h0) (hc : ¬ (255 : Int32) < ch) :
    Con l Z (⟨"java/lang/StringLatin1", "canEncode", "(C)Z"⟩ : MethodName) jdk_43_method_3_code 1 (some .boolean) [] ({ frames := 0, cells := 0, slots := 0, locals := 0 } : Room) #[(.int ch)] h0 (Q_canEncode Z ch h0) := by
  refine Con.walk (plainFor_of_name pn_0) ?_
  intro p e s m below meth c T0 X0 hx hZ hby hml hown hnm hret hlk e0
  obtain ⟨hw, ⟨cz, S_CS, hcz⟩, ⟨k0, k1, k2, k3, kr, S_K0, S_K1, S_K2, S_K3, S_KR⟩, ⟨ust, sen, ⟨S_US, hus⟩, ⟨S_SE, hsen⟩⟩⟩ := id hD
  have N0 := Fr.nil Z.heap.size
  refine OEnds.cast (ef_canEncode m ch) ?_
  refine OEnds.st (S' := T0.setTop (mkF m 12 #[vi ch] [(.int 1)])) (fun _ k => ?_) ?_
  · refine XS.iloadN X0.here hx rfl (hb hby d_jdk_43_3_0) rfl ?_
    refine XS.sipush X0.here hx rfl (hb hby d_jdk_43_3_1) ?_
    refine XS.icmpNo X0.here hx rfl (hb hby d_jdk_43_3_4) rfl (flt hc).2.2.1 ?_
    refine XS.iconst X0.here hx rfl (hb hby d_jdk_43_3_7) ?_
    show Steps p.tables e below (T0.setTop (mkF m 8 #[vi ch] [(.int 1)])) _
    refine XS.goto X0.here hx rfl (pc0 := 8) (pc' := 12) rfl (hb hby d_jdk_43_3_8) (by decide) (by decide) ?_
    exact k
  exact OEnds.ret X0 hx hret hlk (by decide) (Or.inl ⟨rfl, by simp, _, rfl⟩) (hb hby d_jdk_43_3_12) (by decide) (by decide) (by rw [e0]; exact ⟨rfl, N0, rfl⟩)
-- java/lang/StringLatin1.toBytes:(C)[B
def Q_toBytesC (Z : State) (ch : Int32) (h0 : Heap) (v : Option Value) (h : Heap) (L : List Loc) : Prop := ∃ (t : Addr) (k : ClassId), v = some (.ref t) ∧ Fr Z.heap.size L ∧ Keep h0 h [] ∧ h0.size ≤ t ∧ Arv Z h t k .byte (1 : Int32) [.int ch.toInt8.toInt32] (.int 0)
theorem ef_toBytesC (m : MethodId) (ch : Int32) : entryFrame m #[(.int ch)] 1 = mkF m 0 #[vi ch] [] := by first | (simp [entryFrame, mkF, argsToLocals, Value.category, vi, vj, vr]; done) | rfl
theorem d_jdk_43_46_0 : decode jdk_43_method_46_code 0 = .ok (.iconst 1, 1) := by decide +kernel
theorem d_jdk_43_46_1 : decode jdk_43_method_46_code 1 = .ok (.newarray .byte, 2) := by decide +kernel
theorem d_jdk_43_46_3 : decode jdk_43_method_46_code 3 = .ok (.dup, 1) := by decide +kernel
theorem d_jdk_43_46_4 : decode jdk_43_method_46_code 4 = .ok (.iconst 0, 1) := by decide +kernel
theorem d_jdk_43_46_5 : decode jdk_43_method_46_code 5 = .ok (.iload_n 0, 1) := by decide +kernel
theorem d_jdk_43_46_6 : decode jdk_43_method_46_code 6 = .ok (.i2b, 1) := by decide +kernel
theorem d_jdk_43_46_7 : decode jdk_43_method_46_code 7 = .ok (.bastore, 1) := by decide +kernel
theorem d_jdk_43_46_8 : decode jdk_43_method_46_code 8 = .ok (.areturn, 1) := by decide +kernel
set_option maxRecDepth 65536 in
set_option maxHeartbeats 40000000 in
theorem rm_toBytesC (l : Launch) {Z : State} {a0 : Array Value} (hD : Wd Z a0) (ch : Int32) {h0 : Heap} (O0 : Ext Z.heap h0) :
    Con l Z (⟨"java/lang/StringLatin1", "toBytes", "(C)[B"⟩ : MethodName) jdk_43_method_46_code 1 (some (.array .byte)) [] ({ frames := 0, cells := 1, slots := 1, locals := 0 } : Room) #[(.int ch)] h0 (Q_toBytesC Z ch h0) := by
  refine Con.walk (plainFor_of_name pn_0) ?_
  intro p e s m below meth c T0 X0 hx hZ hby hml hown hnm hret hlk e0
  obtain ⟨hw, ⟨cz, S_CS, hcz⟩, ⟨k0, k1, k2, k3, kr, S_K0, S_K1, S_K2, S_K3, S_KR⟩, ⟨ust, sen, ⟨S_US, hus⟩, ⟨S_SE, hsen⟩⟩⟩ := id hD
  have N0 := Fr.nil Z.heap.size
  have K0 : Keep h0 h0 [] := Keep.refl _ _
  refine OEnds.cast (ef_toBytesC m ch) ?_
  refine OEnds.st (S' := T0.setTop (mkF m 1 #[vi ch] [(.int 1)])) (fun _ k => ?_) ?_
  · refine XS.iconst X0.here hx rfl (hb hby d_jdk_43_46_0) ?_
    exact k
  obtain ⟨T1, h1, k1, X1, e1, E1, A1, st1⟩ := newP X0 hx hZ (wq hw 25 rfl) e0 (g := (mkF m 1 #[vi ch] [(.int 1)])) rfl (hb hby d_jdk_43_46_1) rfl (by decide) (cap := 1) (by decide) (by decide) (by decide) (by decide)
  obtain ⟨b1, g1⟩ : ∃ z, z = h0.size := ⟨_, rfl⟩
  rw [← g1] at A1 st1
  refine OEnds.st st1 ?_
  have ge_b1 : Z.heap.size ≤ b1 := Nat.le_trans O0.1 (Nat.le_of_eq g1.symm)
  have sz_b1 : h0.size ≤ b1 := Nat.le_trans K0.1 (Nat.le_of_eq g1.symm)
  replace O0 : Ext Z.heap h1 := ext_trans O0 E1
  replace K0 : Keep h0 h1 [] := K0.ext E1
  have V_b1 : Arv Z h1 b1 k1 .byte (1 : Int32) [(.int 0)] (.int 0) := (Arv.new A1 (by decide)).pad (pad_rep [] (.int 0) 1)
  refine OEnds.st (S' := T1.setTop (mkF m 7 #[vi ch] [(.int (ch.toInt8.toInt32)), (.int 0), (.ref b1), (.ref b1)])) (fun _ k => ?_) ?_
  · refine XS.dup X1.here hx rfl (hb hby d_jdk_43_46_3) rfl rfl ?_
    refine XS.iconst X1.here hx rfl (hb hby d_jdk_43_46_4) ?_
    refine XS.iloadN X1.here hx rfl (hb hby d_jdk_43_46_5) rfl ?_
    refine XS.i2b X1.here hx rfl (hb hby d_jdk_43_46_6) rfl ?_
    exact k
  obtain ⟨cl_b1_2, Ar_b1_2, q_b1_2, S_b1_2, N_b1_2, H_b1_2, G_b1_2⟩ := V_b1
  obtain ⟨T2, h2, X2, e2, W2, st2⟩ := stB X1 hx hZ e1 Ar_b1_2 (j := (0 : Int32)) (inb_of S_b1_2 ⟨by decide, by decide⟩) (g := (mkF m 7 #[vi ch] [(.int (ch.toInt8.toInt32)), (.int 0), (.ref b1), (.ref b1)])) rfl rfl (hb hby d_jdk_43_46_7)
  have V_b1_2 : Arv Z h2 b1 k1 .byte (1 : Int32) [(.int (nar .byte (ch.toInt8.toInt32)))] (.int 0) := Arv.set Ar_b1_2 q_b1_2 S_b1_2 N_b1_2 H_b1_2 G_b1_2 (fits_nar_byte _) W2 0 rfl (Nat.le_of_ble_eq_true rfl)
  refine OEnds.st st2 ?_
  replace O0 : Ext Z.heap h2 := ext_wr O0 W2 ge_b1
  replace N0 := Fr.snoc X2 N0 ge_b1
  replace K0 : Keep h0 h2 [] := K0.wr W2 (Or.inr sz_b1)
  rw [nar_b8] at V_b1_2
  exact OEnds.ret X2 hx hret hlk rfl (Or.inr (Or.inr (Or.inr (Or.inr ⟨rfl, rfl, rfl⟩)))) (hb hby d_jdk_43_46_8) (by decide) (by decide) (by rw [e2]; exact ⟨b1, _, rfl, N0, K0, sz_b1, V_b1_2⟩)
-- java/lang/String.<init>:([BB)V
def Q_strInitBB (Z : State) (a : Addr) (t : Addr) (h0 : Heap) (v : Option Value) (h : Heap) (L : List Loc) : Prop := v = none ∧ Fr Z.heap.size L ∧ Keep h0 h [a] ∧ Exa Z h a "java/lang/String" ∧ Fld Z h a "java/lang/String" "value" "[B" (.ref t) ∧ Fld Z h a "java/lang/String" "coder" "B" (.int 0)
theorem ef_strInitBB (m : MethodId) (a : Addr) (t : Addr) : entryFrame m #[(.ref a), (.ref t), (.int 0)] 3 = mkF m 0 #[vr a, vr t, vi 0] [] := by first | (simp [entryFrame, mkF, argsToLocals, Value.category, vi, vj, vr]; done) | rfl
theorem pn_1 : plainName "java/lang/String" = true := by first | (simp [plainName, overriddenIn]; done) | decide +kernel
theorem d_jdk_42_151_0 : decode jdk_42_method_151_code 0 = .ok (.aload_n 0, 1) := by decide +kernel
theorem d_jdk_42_151_1 : decode jdk_42_method_151_code 1 = .ok (.invokespecial 1, 3) := by decide +kernel
theorem d_jdk_42_151_4 : decode jdk_42_method_151_code 4 = .ok (.aload_n 0, 1) := by decide +kernel
theorem d_jdk_42_151_5 : decode jdk_42_method_151_code 5 = .ok (.aload_n 1, 1) := by decide +kernel
theorem d_jdk_42_151_6 : decode jdk_42_method_151_code 6 = .ok (.putfield 9, 3) := by decide +kernel
theorem d_jdk_42_151_9 : decode jdk_42_method_151_code 9 = .ok (.aload_n 0, 1) := by decide +kernel
theorem d_jdk_42_151_10 : decode jdk_42_method_151_code 10 = .ok (.iload_n 2, 1) := by decide +kernel
theorem d_jdk_42_151_11 : decode jdk_42_method_151_code 11 = .ok (.putfield 15, 3) := by decide +kernel
theorem d_jdk_42_151_14 : decode jdk_42_method_151_code 14 = .ok (.return_, 1) := by decide +kernel
set_option maxRecDepth 65536 in
set_option maxHeartbeats 40000000 in
theorem rm_strInitBB (l : Launch) {Z : State} {a0 : Array Value} (hD : Wd Z a0) (a : Addr) (t : Addr) {h0 : Heap} (O0 : Ext Z.heap h0) (E_a : Exa Z h0 a "java/lang/String") (F_value_a : Fld Z h0 a "java/lang/String" "value" "[B" .null) (F_coder_a : Fld Z h0 a "java/lang/String" "coder" "B" (.int 0)) (ge_a : Z.heap.size ≤ a) :
    Con l Z (⟨"java/lang/String", "<init>", "([BB)V"⟩ : MethodName) jdk_42_method_151_code 3 none [] ({ frames := 1, cells := 0, slots := 0, locals := 12 } : Room) #[(.ref a), (.ref t), (.int 0)] h0 (Q_strInitBB Z a t h0) := by
  refine Con.walk (plainFor_of_name pn_1) ?_
  intro p e s m below meth c T0 X0 hx hZ hby hml hown hnm hret hlk e0
  obtain ⟨hw, ⟨cz, S_CS, hcz⟩, ⟨k0, k1, k2, k3, kr, S_K0, S_K1, S_K2, S_K3, S_KR⟩, ⟨ust, sen, ⟨S_US, hus⟩, ⟨S_SE, hsen⟩⟩⟩ := id hD
  have N0 := Fr.nil Z.heap.size
  have K0 : Keep h0 h0 [a] := Keep.refl _ _
  refine OEnds.cast (ef_strInitBB m a t) ?_
  refine OEnds.st (S' := T0.setTop (mkF m 1 #[vr a, vr t, vi 0] [(.ref a)])) (fun _ k => ?_) ?_
  · refine XS.aloadN X0.here hx rfl (hb hby d_jdk_42_151_0) rfl rfl ?_
    exact k
  obtain ⟨T1, X1, e1, st1⟩ := initO X0 hx hZ hown (wq hw 21 rfl) (wq hw 22 rfl) (wq hw 23 rfl) e0 (g := (mkF m 1 #[vr a, vr t, vi 0] [(.ref a)])) rfl (by rw [hml]; rfl) rfl (hb hby d_jdk_42_151_1) (by decide) (W := 0) (by show 2 * 0 + _ ≤ _; exact Nat.le_of_eq rfl) (by decide)
  refine OEnds.st st1 ?_
  refine OEnds.st (S' := T1.setTop (mkF m 6 #[vr a, vr t, vi 0] [(.ref t), (.ref a)])) (fun _ k => ?_) ?_
  · refine XS.aloadN X1.here hx rfl (hb hby d_jdk_42_151_4) rfl rfl ?_
    refine XS.aloadN X1.here hx rfl (hb hby d_jdk_42_151_5) rfl rfl ?_
    exact k
  obtain ⟨T2, h2, X2, e2, W2, st2⟩ := putF X1 hx hZ hown (host := "") (Or.inl (wq hw 30 rfl)) Via.refl e1 F_value_a E_a (Or.inr ⟨(wq hw 26 rfl), rfl, hnm⟩) (wq hw 12 rfl) (ty := (.array .byte)) (by decide) rfl rfl (g := (mkF m 6 #[vr a, vr t, vi 0] [(.ref t), (.ref a)])) rfl rfl (hb hby d_jdk_42_151_6)
  refine OEnds.st st2 ?_
  replace E_a := E_a.wr W2
  replace F_value_a := F_value_a.same W2
  replace F_coder_a := F_coder_a.other W2 (Or.inr (slot_ne (Or.inr (wq hw 27 rfl)) (Or.inr (wq hw 26 rfl)) (by decide) (t := .byte) (t' := (.array .byte)) (by decide) (by decide)))
  replace O0 : Ext Z.heap h2 := ext_wr O0 W2 ge_a
  replace N0 := Fr.snoc X2 N0 ge_a
  replace K0 : Keep h0 h2 [a] := K0.wr W2 (Or.inl (List.mem_of_getElem? (i := 0) rfl))
  refine OEnds.st (S' := T2.setTop (mkF m 11 #[vr a, vr t, vi 0] [(.int 0), (.ref a)])) (fun _ k => ?_) ?_
  · refine XS.aloadN X2.here hx rfl (hb hby d_jdk_42_151_9) rfl rfl ?_
    refine XS.iloadN X2.here hx rfl (hb hby d_jdk_42_151_10) rfl ?_
    exact k
  obtain ⟨T3, h3, X3, e3, W3, st3⟩ := putF X2 hx hZ hown (host := "") (Or.inl (wq hw 31 rfl)) Via.refl e2 F_coder_a E_a (Or.inr ⟨(wq hw 27 rfl), rfl, hnm⟩) (wq hw 12 rfl) (ty := .byte) (by decide) rfl rfl (g := (mkF m 11 #[vr a, vr t, vi 0] [(.int 0), (.ref a)])) rfl rfl (hb hby d_jdk_42_151_11)
  refine OEnds.st st3 ?_
  replace E_a := E_a.wr W3
  replace F_value_a := F_value_a.other W3 (Or.inr (slot_ne (Or.inr (wq hw 26 rfl)) (Or.inr (wq hw 27 rfl)) (by decide) (t := (.array .byte)) (t' := .byte) (by decide) (by decide)))
  replace F_coder_a := F_coder_a.same W3
  replace O0 : Ext Z.heap h3 := ext_wr O0 W3 ge_a
  replace N0 := Fr.snoc X3 N0 ge_a
  replace K0 : Keep h0 h3 [a] := K0.wr W3 (Or.inl (List.mem_of_getElem? (i := 0) rfl))
  exact OEnds.retV X3 hx hret hlk (hb hby d_jdk_42_151_14) (by decide) (by decide) (by rw [e3]; exact ⟨rfl, N0, K0, E_a, F_value_a, F_coder_a⟩)
-- java/lang/String.valueOf:(C)Ljava/lang/String;
def Q_valueOfC (Z : State) (ch : Int32) (h0 : Heap) (v : Option Value) (h : Heap) (L : List Loc) : Prop := ∃ (r t : Addr) (k : ClassId), v = some (.ref r) ∧ Fr Z.heap.size L ∧ Keep h0 h [] ∧ h0.size ≤ r ∧ h0.size ≤ t ∧ r ≠ t ∧ Exa Z h r "java/lang/String" ∧ Fld Z h r "java/lang/String" "coder" "B" (.int 0) ∧ Fld Z h r "java/lang/String" "value" "[B" (.ref t) ∧ Arv Z h t k .byte (1 : Int32) [.int ch.toInt8.toInt32] (.int 0)
theorem ef_valueOfC (m : MethodId) (ch : Int32) : entryFrame m #[(.int ch)] 1 = mkF m 0 #[vi ch] [] := by first | (simp [entryFrame, mkF, argsToLocals, Value.category, vi, vj, vr]; done) | rfl
theorem d_jdk_42_139_0 : decode jdk_42_method_139_code 0 = .ok (.getstatic 38, 3) := by decide +kernel
theorem d_jdk_42_139_3 : decode jdk_42_method_139_code 3 = .ok (.ifCond .eq 23, 3) := by decide +kernel
theorem d_jdk_42_139_6 : decode jdk_42_method_139_code 6 = .ok (.iload_n 0, 1) := by decide +kernel
theorem d_jdk_42_139_7 : decode jdk_42_method_139_code 7 = .ok (.invokestatic 1015, 3) := by decide +kernel
theorem pd_0 : parseMethodDescriptor "(C)Z" = some ⟨[.char], some .boolean⟩ := by decide +kernel
theorem d_jdk_42_139_10 : decode jdk_42_method_139_code 10 = .ok (.ifCond .eq 16, 3) := by decide +kernel
theorem d_jdk_42_139_13 : decode jdk_42_method_139_code 13 = .ok (.new 10, 3) := by decide +kernel
theorem d_jdk_42_139_16 : decode jdk_42_method_139_code 16 = .ok (.dup, 1) := by decide +kernel
theorem d_jdk_42_139_17 : decode jdk_42_method_139_code 17 = .ok (.iload_n 0, 1) := by decide +kernel
theorem d_jdk_42_139_18 : decode jdk_42_method_139_code 18 = .ok (.invokestatic 1018, 3) := by decide +kernel
theorem pd_1 : parseMethodDescriptor "(C)[B" = some ⟨[.char], some (.array .byte)⟩ := by decide +kernel
theorem d_jdk_42_139_21 : decode jdk_42_method_139_code 21 = .ok (.iconst 0, 1) := by decide +kernel
theorem d_jdk_42_139_22 : decode jdk_42_method_139_code 22 = .ok (.invokespecial 209, 3) := by decide +kernel
theorem pd_2 : parseMethodDescriptor "([BB)V" = some ⟨[(.array .byte), .byte], none⟩ := by decide +kernel
theorem d_jdk_42_139_25 : decode jdk_42_method_139_code 25 = .ok (.areturn, 1) := by decide +kernel
set_option maxRecDepth 65536 in
set_option maxHeartbeats 40000000 in
theorem rm_valueOfC (l : Launch) {Z : State} {a0 : Array Value} (hD : Wd Z a0) (ch : Int32) {h0 : Heap} (O0 : Ext Z.heap h0) (hc : ¬ (255 : Int32) < ch) :
    Con l Z (⟨"java/lang/String", "valueOf", "(C)Ljava/lang/String;"⟩ : MethodName) jdk_42_method_139_code 1 (some (.object "java/lang/String")) [] ({ frames := 2, cells := 2, slots := 5, locals := 27 } : Room) #[(.int ch)] h0 (Q_valueOfC Z ch h0) := by
  refine Con.walk (plainFor_of_name pn_1) ?_
  intro p e s m below meth c T0 X0 hx hZ hby hml hown hnm hret hlk e0
  obtain ⟨hw, ⟨cz, S_CS, hcz⟩, ⟨k0, k1, k2, k3, kr, S_K0, S_K1, S_K2, S_K3, S_KR⟩, ⟨ust, sen, ⟨S_US, hus⟩, ⟨S_SE, hsen⟩⟩⟩ := id hD
  have N0 := Fr.nil Z.heap.size
  have K0 : Keep h0 h0 [] := Keep.refl _ _
  refine OEnds.cast (ef_valueOfC m ch) ?_
  obtain ⟨T1, X1, e1, st1⟩ := getS2 X0 hx hZ hown (host := "") (Or.inl (wq hw 130 rfl)) Via.refl e0 (S_CS.ext O0) (g := (mkF m 0 #[vi ch] [])) rfl (hb hby d_jdk_42_139_0)
  refine OEnds.st st1 ?_
  refine OEnds.st (S' := T1.setTop (mkF m 7 #[vi ch] [(.int ch)])) (fun _ k => ?_) ?_
  · refine XS.ifNo X1.here hx rfl (hb hby d_jdk_42_139_3) rfl ((if0 _ _).trans (feq hcz).1) ?_
    refine XS.iloadN X1.here hx rfl (hb hby d_jdk_42_139_6) rfl ?_
    exact k
  obtain ⟨_, T2, h2, L2, X2, e2, hQ2, st2⟩ := callC X1 hx hZ hown (wq hw 148 rfl) (wq hw 149 rfl) (wq hw 150 rfl) (wq hw 151 rfl) (by decide) (kc := 0) (ks := 0) (Con.sb (W := 0) (rm_canEncode l hD ch O0 hc) hZ (wq hw 151 rfl) (wq hw 150 rfl) (by decide) (by decide)) e1 (g := (mkF m 7 #[vi ch] [(.int ch)])) rfl (by rw [hml]; rfl) (argsL := [(.int ch)]) (rest := []) (lenOf pd_0 rfl) rfl (by show 2 * 0 + _ ≤ _; exact Nat.le_of_eq rfl) (hb hby d_jdk_42_139_7) (by decide) (by decide)
  obtain ⟨rfl, Nq2, Hq2⟩ := hQ2
  refine OEnds.st st2 ?_
  replace N0 := Fr.app N0 Nq2
  replace e2 := e2.trans Hq2
  refine OEnds.st (S' := T2.setTop (mkF m 13 #[vi ch] [])) (fun _ k => ?_) ?_
  · refine XS.ifNo X2.here hx rfl (hb hby d_jdk_42_139_10) rfl ((if0 _ _).trans (feq (by decide)).1) ?_
    exact k
  obtain ⟨T3, h3, X3, e3, E3, A3, D3, U3, st3⟩ := newO X2 hx hZ hown (wq hw 152 rfl) (wq hw 12 rfl) (wq hw 13 rfl) e2 (g := (mkF m 13 #[vi ch] [])) rfl (hb hby d_jdk_42_139_13) (by decide) (by decide)
  obtain ⟨b3, g3⟩ : ∃ z, z = h0.size := ⟨_, rfl⟩
  rw [← g3] at A3 D3 U3 st3
  refine OEnds.st st3 ?_
  have ge_b3 : Z.heap.size ≤ b3 := Nat.le_trans O0.1 (Nat.le_of_eq g3.symm)
  have sz_b3 : h0.size ≤ b3 := Nat.le_trans K0.1 (Nat.le_of_eq g3.symm)
  replace O0 : Ext Z.heap h3 := ext_trans O0 E3
  replace K0 : Keep h0 h3 [] := K0.ext E3
  have F_value_b3 : Fld Z h3 b3 "java/lang/String" "value" "[B" .null := D3 (Or.inr (wq hw 26 rfl)) (ty := (.array .byte)) (by decide)
  have F_coder_b3 : Fld Z h3 b3 "java/lang/String" "coder" "B" (.int 0) := D3 (Or.inr (wq hw 27 rfl)) (ty := .byte) (by decide)
  refine OEnds.st (S' := T3.setTop (mkF m 18 #[vi ch] [(.int ch), (.ref b3), (.ref b3)])) (fun _ k => ?_) ?_
  · refine XS.dup X3.here hx rfl (hb hby d_jdk_42_139_16) rfl rfl ?_
    refine XS.iloadN X3.here hx rfl (hb hby d_jdk_42_139_17) rfl ?_
    exact k
  obtain ⟨_, T4, h4, L4, X4, e4, hQ4, st4⟩ := callC X3 hx hZ hown (wq hw 153 rfl) (wq hw 154 rfl) (wq hw 150 rfl) (wq hw 155 rfl) (by decide) (kc := 1) (ks := 1) (Con.sb (W := 2) (rm_toBytesC l hD ch O0) hZ (wq hw 155 rfl) (wq hw 150 rfl) (by decide) (by decide)) e3 (g := (mkF m 18 #[vi ch] [(.int ch), (.ref b3), (.ref b3)])) rfl (by rw [hml]; rfl) (argsL := [(.int ch)]) (rest := [(.ref b3), (.ref b3)]) (lenOf pd_1 rfl) rfl (by show 2 * 0 + _ ≤ _; exact Nat.le_of_eq rfl) (hb hby d_jdk_42_139_18) (by decide) (by decide)
  obtain ⟨t4, k4, rfl, Nq4, Kq4, szq4, V4⟩ := hQ4
  refine OEnds.st st4 ?_
  replace N0 := Fr.app N0 Nq4
  have ne_b3_t4 : b3 ≠ t4 := Nat.ne_of_lt (Nat.lt_of_lt_of_le A3.lt szq4)
  have ge_t4 : Z.heap.size ≤ t4 := Nat.le_trans O0.1 szq4
  have sz_t4 : h0.size ≤ t4 := Nat.le_trans K0.1 szq4
  replace A3 := A3.keep Kq4
  replace F_value_b3 := F_value_b3.keep Kq4 nin0
  replace F_coder_b3 := F_coder_b3.keep Kq4 nin0
  replace O0 : Ext Z.heap h4 := ext_keep O0 Kq4 all0
  replace K0 : Keep h0 h4 [] := K0.trans Kq4 all0
  refine OEnds.st (S' := T4.setTop (mkF m 22 #[vi ch] [(.int 0), (.ref t4), (.ref b3), (.ref b3)])) (fun _ k => ?_) ?_
  · refine XS.iconst X4.here hx rfl (hb hby d_jdk_42_139_21) ?_
    exact k
  obtain ⟨_, T5, h5, L5, X5, e5, hQ5, st5⟩ := specC X4 hx hZ rfl hown (wq hw 156 rfl) (wq hw 157 rfl) (wq hw 158 rfl) (by decide) (kc := 0) (ks := 0) (Con.sb (W := 1) (rm_strInitBB l hD b3 t4 O0 A3 F_value_b3 F_coder_b3 ge_b3) hZ (wq hw 158 rfl) (wq hw 13 rfl) (by decide) (by decide)) e4 (a := b3) (g := (mkF m 22 #[vi ch] [(.int 0), (.ref t4), (.ref b3), (.ref b3)])) rfl (by rw [hml]; rfl) (argsL := [(.ref t4), (.int 0)]) (rest := [(.ref b3)]) (lenOf pd_2 rfl) rfl (by show 2 * 0 + _ ≤ _; exact Nat.le_of_eq rfl) (hb hby d_jdk_42_139_22) (by decide) (by decide)
  obtain ⟨rfl, Nq5, Kq5, Eq5, Fv5, Fc5⟩ := hQ5
  refine OEnds.st st5 ?_
  replace N0 := Fr.app N0 Nq5
  replace A3 := A3.keep Kq5
  replace V4 := V4.keep Kq5 (ninS (Ne.symm ne_b3_t4) nin0)
  replace O0 : Ext Z.heap h5 := ext_keep O0 Kq5 (allS ge_b3 all0)
  replace K0 : Keep h0 h5 [] := K0.trans Kq5 (allS (Or.inr sz_b3) all0)
  exact OEnds.ret X5 hx hret hlk rfl (Or.inr (Or.inr (Or.inr (Or.inr ⟨rfl, rfl, rfl⟩)))) (hb hby d_jdk_42_139_25) (by decide) (by decide) (by rw [e5]; exact ⟨b3, t4, k4, rfl, N0, K0, sz_b3, sz_t4, ne_b3_t4, Eq5, Fc5, Fv5, V4⟩)
-- com/example/driftkey/driftkey/storage/WriteResultRefusedPinLaw.pick:(I)Lcom/example/driftkey/driftkey/request/ErrorType;
def Q_pick (Z : State) (t : Int32) (h0 : Heap) (v : Option Value) (h : Heap) (L : List Loc) : Prop := ∃ a : Addr, v = some (.ref a) ∧ Fr Z.heap.size L ∧ h = h0
theorem ef_pick (m : MethodId) (t : Int32) : entryFrame m #[(.int t)] 2 = mkF m 0 #[vi t, .unset] [] := by first | (simp [entryFrame, mkF, argsToLocals, Value.category, vi, vj, vr]; done) | rfl
theorem pn_2 : plainName "com/example/driftkey/driftkey/storage/WriteResultRefusedPinLaw" = true := by first | (simp [plainName, overriddenIn]; done) | decide +kernel
theorem d_2_0 : decode method_2_code 0 = .ok (.iload_n 0, 1) := by decide +kernel
theorem d_2_1 : decode method_2_code 1 = .ok (.iconst 3, 1) := by decide +kernel
theorem d_2_2 : decode method_2_code 2 = .ok (.iand, 1) := by decide +kernel
theorem d_2_3 : decode method_2_code 3 = .ok (.istore_n 1, 1) := by decide +kernel
theorem d_2_4 : decode method_2_code 4 = .ok (.iload_n 1, 1) := by decide +kernel
theorem d_2_5 : decode method_2_code 5 = .ok (.ifCond .ne 7, 3) := by decide +kernel
theorem d_2_8 : decode method_2_code 8 = .ok (.getstatic 7, 3) := by decide +kernel
theorem d_2_11 : decode method_2_code 11 = .ok (.areturn, 1) := by decide +kernel
theorem d_2_12 : decode method_2_code 12 = .ok (.iload_n 1, 1) := by decide +kernel
theorem d_2_13 : decode method_2_code 13 = .ok (.iconst 1, 1) := by decide +kernel
theorem d_2_14 : decode method_2_code 14 = .ok (.if_icmp .ne 7, 3) := by decide +kernel
theorem d_2_17 : decode method_2_code 17 = .ok (.getstatic 13, 3) := by decide +kernel
theorem d_2_20 : decode method_2_code 20 = .ok (.areturn, 1) := by decide +kernel
theorem d_2_21 : decode method_2_code 21 = .ok (.iload_n 1, 1) := by decide +kernel
theorem d_2_22 : decode method_2_code 22 = .ok (.iconst 2, 1) := by decide +kernel
theorem d_2_23 : decode method_2_code 23 = .ok (.if_icmp .ne 7, 3) := by decide +kernel
theorem d_2_26 : decode method_2_code 26 = .ok (.getstatic 16, 3) := by decide +kernel
theorem d_2_29 : decode method_2_code 29 = .ok (.areturn, 1) := by decide +kernel
theorem d_2_30 : decode method_2_code 30 = .ok (.getstatic 19, 3) := by decide +kernel
theorem d_2_33 : decode method_2_code 33 = .ok (.areturn, 1) := by decide +kernel
set_option maxRecDepth 65536 in
set_option maxHeartbeats 40000000 in
theorem rm_pick (l : Launch) {Z : State} {a0 : Array Value} (hD : Wd Z a0) (t : Int32) {h0 : Heap} (O0 : Ext Z.heap h0) :
    Con l Z (⟨"com/example/driftkey/driftkey/storage/WriteResultRefusedPinLaw", "pick", "(I)Lcom/example/driftkey/driftkey/request/ErrorType;"⟩ : MethodName) method_2_code 2 (some (.object "com/example/driftkey/driftkey/request/ErrorType")) [] ({ frames := 0, cells := 0, slots := 0, locals := 0 } : Room) #[(.int t)] h0 (Q_pick Z t h0) := by
  refine Con.walk (plainFor_of_name pn_2) ?_
  intro p e s m below meth c T0 X0 hx hZ hby hml hown hnm hret hlk e0
  obtain ⟨hw, ⟨cz, S_CS, hcz⟩, ⟨k0, k1, k2, k3, kr, S_K0, S_K1, S_K2, S_K3, S_KR⟩, ⟨ust, sen, ⟨S_US, hus⟩, ⟨S_SE, hsen⟩⟩⟩ := id hD
  have N0 := Fr.nil Z.heap.size
  refine OEnds.cast (ef_pick m t) ?_
  refine OEnds.st (S' := T0.setTop (mkF m 4 #[vi t, vi (t &&& (3 : Int32))] [])) (fun _ k => ?_) ?_
  · refine XS.iloadN X0.here hx rfl (hb hby d_2_0) rfl ?_
    refine XS.iconst X0.here hx rfl (hb hby d_2_1) ?_
    refine XS.iand X0.here hx rfl (hb hby d_2_2) rfl ?_
    refine XS.istoreN X0.here hx rfl (hb hby d_2_3) rfl (l' := #[vi t, vi (t &&& (3 : Int32))]) rfl ?_
    exact k
  generalize hg_kk : (t &&& (3 : Int32)) = kk
  refine OEnds.st (S' := T0.setTop (mkF m 5 #[vi t, vi kk] [(.int kk)])) (fun _ k => ?_) ?_
  · refine XS.iloadN X0.here hx rfl (hb hby d_2_4) rfl ?_
    exact k
  rcases Classical.em (kk = (0 : Int32)) with h0 | h0
  · refine OEnds.st (S' := T0.setTop (mkF m 8 #[vi t, vi kk] [])) (fun _ k => ?_) ?_
    · refine XS.ifNo X0.here hx rfl (hb hby d_2_5) rfl ((if0 _ _).trans (teq h0).2) ?_
      exact k
    obtain ⟨T1, X1, e1, st1⟩ := getS2 X0 hx hZ hown (host := "") (Or.inl (wq hw 4 rfl)) Via.refl e0 (S_K0.ext O0) (g := (mkF m 8 #[vi t, vi kk] [])) rfl (hb hby d_2_8)
    refine OEnds.st st1 ?_
    exact OEnds.ret X1 hx hret hlk rfl (Or.inr (Or.inr (Or.inr (Or.inr ⟨rfl, rfl, rfl⟩)))) (hb hby d_2_11) (by decide) (by decide) (by rw [e1]; exact ⟨k0, rfl, N0, rfl⟩)
  · refine OEnds.st (S' := T0.setTop (mkF m 14 #[vi t, vi kk] [(.int 1), (.int kk)])) (fun _ k => ?_) ?_
    · refine XS.ifYes X0.here hx rfl (pc0 := 5) (pc' := 12) rfl (hb hby d_2_5) rfl ((if0 _ _).trans (feq h0).2) (by decide) (by decide) ?_
      refine XS.iloadN X0.here hx rfl (hb hby d_2_12) rfl ?_
      refine XS.iconst X0.here hx rfl (hb hby d_2_13) ?_
      exact k
    rcases Classical.em (kk = (1 : Int32)) with h1 | h1
    · refine OEnds.st (S' := T0.setTop (mkF m 17 #[vi t, vi kk] [])) (fun _ k => ?_) ?_
      · refine XS.icmpNo X0.here hx rfl (hb hby d_2_14) rfl (teq h1).2 ?_
        exact k
      obtain ⟨T1, X1, e1, st1⟩ := getS2 X0 hx hZ hown (host := "") (Or.inl (wq hw 128 rfl)) Via.refl e0 (S_K1.ext O0) (g := (mkF m 17 #[vi t, vi kk] [])) rfl (hb hby d_2_17)
      refine OEnds.st st1 ?_
      exact OEnds.ret X1 hx hret hlk rfl (Or.inr (Or.inr (Or.inr (Or.inr ⟨rfl, rfl, rfl⟩)))) (hb hby d_2_20) (by decide) (by decide) (by rw [e1]; exact ⟨k1, rfl, N0, rfl⟩)
    · refine OEnds.st (S' := T0.setTop (mkF m 23 #[vi t, vi kk] [(.int 2), (.int kk)])) (fun _ k => ?_) ?_
      · refine XS.icmpYes X0.here hx rfl (pc0 := 14) (pc' := 21) rfl (hb hby d_2_14) rfl (feq h1).2 (by decide) (by decide) ?_
        refine XS.iloadN X0.here hx rfl (hb hby d_2_21) rfl ?_
        refine XS.iconst X0.here hx rfl (hb hby d_2_22) ?_
        exact k
      rcases Classical.em (kk = (2 : Int32)) with h2 | h2
      · refine OEnds.st (S' := T0.setTop (mkF m 26 #[vi t, vi kk] [])) (fun _ k => ?_) ?_
        · refine XS.icmpNo X0.here hx rfl (hb hby d_2_23) rfl (teq h2).2 ?_
          exact k
        obtain ⟨T1, X1, e1, st1⟩ := getS2 X0 hx hZ hown (host := "") (Or.inl (wq hw 143 rfl)) Via.refl e0 (S_K2.ext O0) (g := (mkF m 26 #[vi t, vi kk] [])) rfl (hb hby d_2_26)
        refine OEnds.st st1 ?_
        exact OEnds.ret X1 hx hret hlk rfl (Or.inr (Or.inr (Or.inr (Or.inr ⟨rfl, rfl, rfl⟩)))) (hb hby d_2_29) (by decide) (by decide) (by rw [e1]; exact ⟨k2, rfl, N0, rfl⟩)
      · refine OEnds.st (S' := T0.setTop (mkF m 30 #[vi t, vi kk] [])) (fun _ k => ?_) ?_
        · refine XS.icmpYes X0.here hx rfl (pc0 := 23) (pc' := 30) rfl (hb hby d_2_23) rfl (feq h2).2 (by decide) (by decide) ?_
          exact k
        obtain ⟨T1, X1, e1, st1⟩ := getS2 X0 hx hZ hown (host := "") (Or.inl (wq hw 141 rfl)) Via.refl e0 (S_K3.ext O0) (g := (mkF m 30 #[vi t, vi kk] [])) rfl (hb hby d_2_30)
        refine OEnds.st st1 ?_
        exact OEnds.ret X1 hx hret hlk rfl (Or.inr (Or.inr (Or.inr (Or.inr ⟨rfl, rfl, rfl⟩)))) (hb hby d_2_33) (by decide) (by decide) (by rw [e1]; exact ⟨k3, rfl, N0, rfl⟩)
-- java/lang/String.<init>:([CIILjava/lang/Void;)V
def Q_strE2 (Z : State) (a : Addr) (tc : Addr) (h0 : Heap) (v : Option Value) (h : Heap) (L : List Loc) : Prop := v = none ∧ Fr Z.heap.size L ∧ Keep h0 h [a]
theorem ef_strE2 (m : MethodId) (a : Addr) (tc : Addr) : entryFrame m #[(.ref a), (.ref tc), (.int 0), (.int 0), .null] 6 = mkF m 0 #[vr a, vr tc, vi 0, vi 0, .val .null, .unset] [] := by first | (simp [entryFrame, mkF, argsToLocals, Value.category, vi, vj, vr]; done) | rfl
theorem d_jdk_42_149_0 : decode jdk_42_method_149_code 0 = .ok (.aload_n 0, 1) := by decide +kernel
theorem d_jdk_42_149_1 : decode jdk_42_method_149_code 1 = .ok (.invokespecial 1, 3) := by decide +kernel
theorem d_jdk_42_149_4 : decode jdk_42_method_149_code 4 = .ok (.iload_n 3, 1) := by decide +kernel
theorem d_jdk_42_149_5 : decode jdk_42_method_149_code 5 = .ok (.ifCond .ne 22, 3) := by decide +kernel
theorem d_jdk_42_149_8 : decode jdk_42_method_149_code 8 = .ok (.aload_n 0, 1) := by decide +kernel
theorem d_jdk_42_149_9 : decode jdk_42_method_149_code 9 = .ok (.ldc 7, 2) := by decide +kernel
theorem d_jdk_42_149_11 : decode jdk_42_method_149_code 11 = .ok (.getfield 9, 3) := by decide +kernel
theorem d_jdk_42_149_14 : decode jdk_42_method_149_code 14 = .ok (.putfield 9, 3) := by decide +kernel
theorem d_jdk_42_149_17 : decode jdk_42_method_149_code 17 = .ok (.aload_n 0, 1) := by decide +kernel
theorem d_jdk_42_149_18 : decode jdk_42_method_149_code 18 = .ok (.ldc 7, 2) := by decide +kernel
theorem d_jdk_42_149_20 : decode jdk_42_method_149_code 20 = .ok (.getfield 15, 3) := by decide +kernel
theorem d_jdk_42_149_23 : decode jdk_42_method_149_code 23 = .ok (.putfield 15, 3) := by decide +kernel
theorem d_jdk_42_149_26 : decode jdk_42_method_149_code 26 = .ok (.return_, 1) := by decide +kernel
set_option maxRecDepth 65536 in
set_option maxHeartbeats 40000000 in
theorem rm_strE2 (l : Launch) {Z : State} {a0 : Array Value} (hD : Wd Z a0) (a : Addr) (tc : Addr) {h0 : Heap} (O0 : Ext Z.heap h0) (E_a : Exa Z h0 a "java/lang/String") (F_value_a : Fld Z h0 a "java/lang/String" "value" "[B" .null) (F_coder_a : Fld Z h0 a "java/lang/String" "coder" "B" (.int 0)) (ge_a : Z.heap.size ≤ a) :
    ConH l Z EL (⟨"java/lang/String", "<init>", "([CIILjava/lang/Void;)V"⟩ : MethodName) jdk_42_method_149_code 6 none [] ({ frames := 1, cells := 4, slots := 8, locals := 12 } : Room) #[(.ref a), (.ref tc), (.int 0), (.int 0), .null] h0 [a] (Q_strE2 Z a tc h0) := by
  refine ConH.walk (plainFor_of_name pn_1) ?_
  intro p e s vm0 k0 m below meth c T0 X0 hS0 hk0 hx hZ hby hml hown hnm hret hlk e0 A0 hss
  obtain ⟨hw, ⟨cz, S_CS, hcz⟩, ⟨k0, k1, k2, k3, kr, S_K0, S_K1, S_K2, S_K3, S_KR⟩, ⟨ust, sen, ⟨S_US, hus⟩, ⟨S_SE, hsen⟩⟩⟩ := id hD
  have N0 := Fr.nil Z.heap.size
  have K0 : Keep h0 h0 [a] := Keep.refl _ _
  have S_a := hss a (List.mem_of_getElem? (i := 0) rfl)
  have hEL : EW Z a0 EL := el_of hw
  have hsa : ∀ a ∈ Bundle.stringAtoms, a.before a0 Z = true := fun d hd => hw d (words_sa d hd)
  refine OEndsH.cast (ef_strE2 m a tc) ?_
  refine OEndsH.st (S' := T0.setTop (mkF m 1 #[vr a, vr tc, vi 0, vi 0, .val .null, .unset] [(.ref a)])) (fun _ k => ?_) ?_
  · refine XS.aloadN X0.here hx rfl (hb hby d_jdk_42_149_0) rfl rfl ?_
    exact k
  obtain ⟨T1, X1, e1, st1⟩ := initO X0 hx hZ hown (wq hw 21 rfl) (wq hw 22 rfl) (wq hw 23 rfl) e0 (g := (mkF m 1 #[vr a, vr tc, vi 0, vi 0, .val .null, .unset] [(.ref a)])) rfl (by rw [hml]; rfl) rfl (hb hby d_jdk_42_149_1) (by decide) (W := 0) (by show 2 * 0 + _ ≤ _; exact Nat.le_of_eq rfl) (by decide)
  refine OEndsH.st st1 ?_
  refine OEndsH.st (S' := T1.setTop (mkF m 9 #[vr a, vr tc, vi 0, vi 0, .val .null, .unset] [(.ref a)])) (fun _ k => ?_) ?_
  · refine XS.iloadN X1.here hx rfl (hb hby d_jdk_42_149_4) rfl ?_
    refine XS.ifNo X1.here hx rfl (hb hby d_jdk_42_149_5) rfl ((if0 _ _).trans (teq (by decide)).2) ?_
    refine XS.aloadN X1.here hx rfl (hb hby d_jdk_42_149_8) rfl rfl ?_
    exact k
  obtain ⟨b2, T2, h2, k12, t2, kb2, X2, e2, E2, hS2, hk2, hZ2, hown2, Es2, Fc2, Fv2, V2, -, -, Aq2, -, nes2, st2⟩ := ldcCH X1 hx hZ hown (wq hw 24 rfl) hsa e1 hS0 hk0 hEL (List.mem_of_getElem? (i := 0) rfl) A0.1 (vs := []) (z := (0 : Int32)) ⟨by decide, by decide⟩ (by decide) rfl (g := (mkF m 9 #[vr a, vr tc, vi 0, vi 0, .val .null, .unset] [(.ref a)])) rfl (hb hby d_jdk_42_149_9) (n := 0) (by decide) (by decide) (by decide) (by decide)
  replace hZ2 : Z.Warmed39 T2.vm := hZ2
  replace hown2 : T2.vm.findClass "java/lang/String" = some m.cls := hown2
  replace S_a : Safe Z EL T2.vm h2 a := Aq2.safe E_a.lt S_a
  replace A0 : CHr Z EL s.vm s.heap T2.vm h2 := A0.trans Aq2
  refine OEndsH.st st2 ?_
  have ne_a_b2 : a ≠ b2 := (nes2 a S_a).1
  have ne_a_t2 : a ≠ t2 := (nes2 a S_a).2
  replace E_a := E_a.ext E2
  replace F_value_a := F_value_a.ext E2
  replace F_coder_a := F_coder_a.ext E2
  replace O0 : Ext Z.heap h2 := ext_trans O0 E2
  replace K0 : Keep h0 h2 [a] := K0.ext E2
  obtain ⟨T3, X3, e3, st3⟩ := getF X2 hx hZ2 hown2 (host := "") (Or.inl (wq hw 30 rfl)) Via.refl e2 Fv2 (g := (mkF m 11 #[vr a, vr tc, vi 0, vi 0, .val .null, .unset] [(.ref b2), (.ref a)])) rfl rfl (hb hby d_jdk_42_149_11)
  refine OEndsH.st st3 ?_
  obtain ⟨T4, h4, X4, e4, W4, st4⟩ := putF X3 hx hZ2 hown2 (host := "") (Or.inl (wq hw 30 rfl)) Via.refl e3 F_value_a E_a (Or.inr ⟨(wq hw 26 rfl), rfl, hnm⟩) (wq hw 12 rfl) (ty := (.array .byte)) (by decide) rfl rfl (g := (mkF m 14 #[vr a, vr tc, vi 0, vi 0, .val .null, .unset] [(.ref t2), (.ref a)])) rfl rfl (hb hby d_jdk_42_149_14)
  refine OEndsH.st st4 ?_
  replace E_a := E_a.wr W4
  replace F_value_a := F_value_a.same W4
  replace F_coder_a := F_coder_a.other W4 (Or.inr (slot_ne (Or.inr (wq hw 27 rfl)) (Or.inr (wq hw 26 rfl)) (by decide) (t := .byte) (t' := (.array .byte)) (by decide) (by decide)))
  replace Es2 := Es2.wr W4
  replace Fc2 := Fc2.other W4 (Or.inl (Ne.symm ne_a_b2))
  replace Fv2 := Fv2.other W4 (Or.inl (Ne.symm ne_a_b2))
  replace V2 := V2.other W4 (Ne.symm ne_a_t2)
  have S_a' : Safe Z EL T2.vm h4 a := Safe.wr W4 S_a A0.1 S_a
  have A' : CHr Z EL s.vm s.heap T2.vm h4 := A0.trans (CHr.wr W4 S_a A0.1)
  replace S_a := S_a'
  replace A0 := A'
  replace hk2 := Nat.le_trans hk2 (Keep.of_wr W4).1
  replace O0 : Ext Z.heap h4 := ext_wr O0 W4 ge_a
  replace N0 := Fr.snoc X4 N0 ge_a
  replace K0 : Keep h0 h4 [a] := K0.wr W4 (Or.inl (List.mem_of_getElem? (i := 0) rfl))
  refine OEndsH.st (S' := T4.setTop (mkF m 18 #[vr a, vr tc, vi 0, vi 0, .val .null, .unset] [(.ref a)])) (fun _ k => ?_) ?_
  · refine XS.aloadN X4.here hx rfl (hb hby d_jdk_42_149_17) rfl rfl ?_
    exact k
  obtain ⟨b5, T5, h5, k15, t5, kb5, X5, e5, E5, hS5, hk5, hZ5, hown5, Es5, Fc5, Fv5, V5, -, -, Aq5, -, nes5, st5⟩ := ldcCH X4 hx hZ2 hown2 (wq hw 24 rfl) hsa e4 hS2 hk2 hEL (List.mem_of_getElem? (i := 0) rfl) A0.1 (vs := []) (z := (0 : Int32)) ⟨by decide, by decide⟩ (by decide) rfl (g := (mkF m 18 #[vr a, vr tc, vi 0, vi 0, .val .null, .unset] [(.ref a)])) rfl (hb hby d_jdk_42_149_18) (n := 0) (by decide) (by decide) (by decide) (by decide)
  replace hZ5 : Z.Warmed39 T5.vm := hZ5
  replace hown5 : T5.vm.findClass "java/lang/String" = some m.cls := hown5
  replace S_a : Safe Z EL T5.vm h5 a := Aq5.safe E_a.lt S_a
  replace A0 : CHr Z EL s.vm s.heap T5.vm h5 := A0.trans Aq5
  refine OEndsH.st st5 ?_
  have ne_a_b5 : a ≠ b5 := (nes5 a S_a).1
  have ne_a_t5 : a ≠ t5 := (nes5 a S_a).2
  replace E_a := E_a.ext E5
  replace F_value_a := F_value_a.ext E5
  replace F_coder_a := F_coder_a.ext E5
  replace Es2 := Es2.ext E5
  replace Fc2 := Fc2.ext E5
  replace Fv2 := Fv2.ext E5
  replace V2 := V2.ext E5
  replace O0 : Ext Z.heap h5 := ext_trans O0 E5
  replace K0 : Keep h0 h5 [a] := K0.ext E5
  obtain ⟨T6, X6, e6, st6⟩ := getF X5 hx hZ5 hown5 (host := "") (Or.inl (wq hw 31 rfl)) Via.refl e5 Fc5 (g := (mkF m 20 #[vr a, vr tc, vi 0, vi 0, .val .null, .unset] [(.ref b5), (.ref a)])) rfl rfl (hb hby d_jdk_42_149_20)
  refine OEndsH.st st6 ?_
  obtain ⟨T7, h7, X7, e7, W7, st7⟩ := putF X6 hx hZ5 hown5 (host := "") (Or.inl (wq hw 31 rfl)) Via.refl e6 F_coder_a E_a (Or.inr ⟨(wq hw 27 rfl), rfl, hnm⟩) (wq hw 12 rfl) (ty := .byte) (by decide) rfl rfl (g := (mkF m 23 #[vr a, vr tc, vi 0, vi 0, .val .null, .unset] [(.int 0), (.ref a)])) rfl rfl (hb hby d_jdk_42_149_23)
  refine OEndsH.st st7 ?_
  replace E_a := E_a.wr W7
  replace F_value_a := F_value_a.other W7 (Or.inr (slot_ne (Or.inr (wq hw 26 rfl)) (Or.inr (wq hw 27 rfl)) (by decide) (t := (.array .byte)) (t' := .byte) (by decide) (by decide)))
  replace F_coder_a := F_coder_a.same W7
  replace Es2 := Es2.wr W7
  replace Fc2 := Fc2.other W7 (Or.inl (Ne.symm ne_a_b2))
  replace Fv2 := Fv2.other W7 (Or.inl (Ne.symm ne_a_b2))
  replace V2 := V2.other W7 (Ne.symm ne_a_t2)
  replace Es5 := Es5.wr W7
  replace Fc5 := Fc5.other W7 (Or.inl (Ne.symm ne_a_b5))
  replace Fv5 := Fv5.other W7 (Or.inl (Ne.symm ne_a_b5))
  replace V5 := V5.other W7 (Ne.symm ne_a_t5)
  have S_a' : Safe Z EL T5.vm h7 a := Safe.wr W7 S_a A0.1 S_a
  have A' : CHr Z EL s.vm s.heap T5.vm h7 := A0.trans (CHr.wr W7 S_a A0.1)
  replace S_a := S_a'
  replace A0 := A'
  replace hk5 := Nat.le_trans hk5 (Keep.of_wr W7).1
  replace O0 : Ext Z.heap h7 := ext_wr O0 W7 ge_a
  replace N0 := Fr.snoc X7 N0 ge_a
  replace K0 : Keep h0 h7 [a] := K0.wr W7 (Or.inl (List.mem_of_getElem? (i := 0) rfl))
  exact OEndsH.retV X7 hx hZ5 hEL e7 hS5 hk5 A0 hret hlk (hb hby d_jdk_42_149_26) (by decide) (by decide) ⟨rfl, N0, K0⟩
-- java/lang/String.<init>:([C)V
def Q_strE1 (Z : State) (a : Addr) (tc : Addr) (k : ClassId) (h0 : Heap) (v : Option Value) (h : Heap) (L : List Loc) : Prop := v = none ∧ Fr Z.heap.size L ∧ Keep h0 h [a]
theorem ef_strE1 (m : MethodId) (a : Addr) (tc : Addr) : entryFrame m #[(.ref a), (.ref tc)] 2 = mkF m 0 #[vr a, vr tc] [] := by first | (simp [entryFrame, mkF, argsToLocals, Value.category, vi, vj, vr]; done) | rfl
theorem d_jdk_42_3_0 : decode jdk_42_method_3_code 0 = .ok (.aload_n 0, 1) := by decide +kernel
theorem d_jdk_42_3_1 : decode jdk_42_method_3_code 1 = .ok (.aload_n 1, 1) := by decide +kernel
theorem d_jdk_42_3_2 : decode jdk_42_method_3_code 2 = .ok (.iconst 0, 1) := by decide +kernel
theorem d_jdk_42_3_3 : decode jdk_42_method_3_code 3 = .ok (.aload_n 1, 1) := by decide +kernel
theorem d_jdk_42_3_4 : decode jdk_42_method_3_code 4 = .ok (.arraylength, 1) := by decide +kernel
theorem d_jdk_42_3_5 : decode jdk_42_method_3_code 5 = .ok (.aconst_null, 1) := by decide +kernel
theorem d_jdk_42_3_6 : decode jdk_42_method_3_code 6 = .ok (.invokespecial 27, 3) := by decide +kernel
theorem pd_3 : parseMethodDescriptor "([CIILjava/lang/Void;)V" = some ⟨[(.array .char), .int, .int, (.object "java/lang/Void")], none⟩ := by decide +kernel
theorem d_jdk_42_3_9 : decode jdk_42_method_3_code 9 = .ok (.return_, 1) := by decide +kernel
set_option maxRecDepth 65536 in
set_option maxHeartbeats 40000000 in
theorem rm_strE1 (l : Launch) {Z : State} {a0 : Array Value} (hD : Wd Z a0) (a : Addr) (tc : Addr) (k : ClassId) {h0 : Heap} (O0 : Ext Z.heap h0) (E_a : Exa Z h0 a "java/lang/String") (F_value_a : Fld Z h0 a "java/lang/String" "value" "[B" .null) (F_coder_a : Fld Z h0 a "java/lang/String" "coder" "B" (.int 0)) (ge_a : Z.heap.size ≤ a) (V_tc : Arv Z h0 tc k .char (0 : Int32) [] (.int 0)) :
    ConH l Z EL (⟨"java/lang/String", "<init>", "([C)V"⟩ : MethodName) jdk_42_method_3_code 2 none [] ({ frames := 2, cells := 4, slots := 8, locals := 29 } : Room) #[(.ref a), (.ref tc)] h0 [a] (Q_strE1 Z a tc k h0) := by
  refine ConH.walk (plainFor_of_name pn_1) ?_
  intro p e s vm0 k0 m below meth c T0 X0 hS0 hk0 hx hZ hby hml hown hnm hret hlk e0 A0 hss
  obtain ⟨hw, ⟨cz, S_CS, hcz⟩, ⟨k0, k1, k2, k3, kr, S_K0, S_K1, S_K2, S_K3, S_KR⟩, ⟨ust, sen, ⟨S_US, hus⟩, ⟨S_SE, hsen⟩⟩⟩ := id hD
  have N0 := Fr.nil Z.heap.size
  have K0 : Keep h0 h0 [a] := Keep.refl _ _
  have S_a := hss a (List.mem_of_getElem? (i := 0) rfl)
  have hEL : EW Z a0 EL := el_of hw
  have hsa : ∀ a ∈ Bundle.stringAtoms, a.before a0 Z = true := fun d hd => hw d (words_sa d hd)
  refine OEndsH.cast (ef_strE1 m a tc) ?_
  refine OEndsH.st (S' := T0.setTop (mkF m 4 #[vr a, vr tc] [(.ref tc), (.int 0), (.ref tc), (.ref a)])) (fun _ k => ?_) ?_
  · refine XS.aloadN X0.here hx rfl (hb hby d_jdk_42_3_0) rfl rfl ?_
    refine XS.aloadN X0.here hx rfl (hb hby d_jdk_42_3_1) rfl rfl ?_
    refine XS.iconst X0.here hx rfl (hb hby d_jdk_42_3_2) ?_
    refine XS.aloadN X0.here hx rfl (hb hby d_jdk_42_3_3) rfl rfl ?_
    exact k
  obtain ⟨cl_tc_1, Ar_tc_1, q_tc_1, S_tc_1, N_tc_1, H_tc_1, G_tc_1⟩ := id V_tc
  refine OEndsH.st (S' := T0.setTop (mkF m 5 #[vr a, vr tc] [(.int 0), (.int 0), (.ref tc), (.ref a)])) (fun tg kq9 => X0.arraylength hx (by rw [e0]; exact Ar_tc_1.1) (State.isArrayOf_alike hZ.alike Ar_tc_1.2.1) (g := (mkF m 4 #[vr a, vr tc] [(.ref tc), (.int 0), (.ref tc), (.ref a)])) rfl rfl (hb hby d_jdk_42_3_4) tg (by rw [len_of S_tc_1 N_tc_1]; exact kq9)) ?_
  refine OEndsH.st (S' := T0.setTop (mkF m 6 #[vr a, vr tc] [.null, (.int 0), (.int 0), (.ref tc), (.ref a)])) (fun _ k => ?_) ?_
  · refine XS.aconstNull X0.here hx rfl (hb hby d_jdk_42_3_5) ?_
    exact k
  obtain ⟨_, T2, h2, L2, vm2, k12, X2, e2, hQ2, hS2, hk2, hZ2, hown2, Aq2, st2⟩ := specH X0 hx hZ rfl hown (wq hw 17 rfl) (wq hw 18 rfl) (wq hw 20 rfl) (by decide) (kc := 4) (ks := 8) (ConH.sb (W := 0) (rm_strE2 l hD a tc O0 E_a F_value_a F_coder_a ge_a) hZ (wq hw 20 rfl) (wq hw 13 rfl) (by decide) (by decide) hEL A0.1 (allS ⟨E_a.lt, S_a⟩ all0)) e0 hS0 hk0 (a := a) (g := (mkF m 6 #[vr a, vr tc] [.null, (.int 0), (.int 0), (.ref tc), (.ref a)])) rfl (by rw [hml]; rfl) (argsL := [(.ref tc), (.int 0), (.int 0), .null]) (rest := []) (lenOf pd_3 rfl) rfl (by show 2 * 0 + _ ≤ _; exact Nat.le_of_eq rfl) (hb hby d_jdk_42_3_6) (by decide) (by decide)
  obtain ⟨rfl, Nq2, Kq2⟩ := hQ2
  replace S_a : Safe Z EL vm2 h2 a := Aq2.safe E_a.lt S_a
  replace A0 : CHr Z EL s.vm s.heap vm2 h2 := A0.trans Aq2
  refine OEndsH.st st2 ?_
  replace N0 := Fr.app N0 Nq2
  have ne_tc_a : tc ≠ a := Ne.symm (ne_arv E_a (wq hw 12 rfl) V_tc)
  replace E_a := E_a.keep Kq2
  replace V_tc := V_tc.keep Kq2 (ninS ne_tc_a nin0)
  replace O0 : Ext Z.heap h2 := ext_keep O0 Kq2 (allS ge_a all0)
  replace K0 : Keep h0 h2 [a] := K0.trans Kq2 (allS (Or.inl (List.mem_of_getElem? (i := 0) rfl)) all0)
  exact OEndsH.retV X2 hx hZ2 hEL e2 hS2 hk2 A0 hret hlk (hb hby d_jdk_42_3_9) (by decide) (by decide) ⟨rfl, N0, K0⟩
-- com/example/driftkey/driftkey/storage/WriteResultRefusedPinLaw.reason:(III)Ljava/lang/String;
def Q_reason (Z : State) (t : Int32) (c0 : Int32) (c1 : Int32) (h0 : Heap) (v : Option Value) (h : Heap) (L : List Loc) : Prop := ∃ a : Addr, v = some (.ref a) ∧ Fr Z.heap.size L ∧ Keep h0 h []
theorem ef_reason (m : MethodId) (t : Int32) (c0 : Int32) (c1 : Int32) : entryFrame m #[(.int t), (.int c0), (.int c1)] 5 = mkF m 0 #[vi t, vi c0, vi c1, .unset, .unset] [] := by first | (simp [entryFrame, mkF, argsToLocals, Value.category, vi, vj, vr]; done) | rfl
theorem d_3_0 : decode method_3_code 0 = .ok (.iload_n 0, 1) := by decide +kernel
theorem d_3_1 : decode method_3_code 1 = .ok (.iconst 2, 1) := by decide +kernel
theorem d_3_2 : decode method_3_code 2 = .ok (.iushr, 1) := by decide +kernel
theorem d_3_3 : decode method_3_code 3 = .ok (.iconst 3, 1) := by decide +kernel
theorem d_3_4 : decode method_3_code 4 = .ok (.irem, 1) := by decide +kernel
theorem d_3_5 : decode method_3_code 5 = .ok (.istore_n 3, 1) := by decide +kernel
theorem d_3_6 : decode method_3_code 6 = .ok (.iload_n 3, 1) := by decide +kernel
theorem d_3_7 : decode method_3_code 7 = .ok (.ifCond .ge 6, 3) := by decide +kernel
theorem d_3_10 : decode method_3_code 10 = .ok (.iload_n 3, 1) := by decide +kernel
theorem d_3_11 : decode method_3_code 11 = .ok (.ineg, 1) := by decide +kernel
theorem d_3_12 : decode method_3_code 12 = .ok (.istore_n 3, 1) := by decide +kernel
theorem d_3_13 : decode method_3_code 13 = .ok (.iconst 2, 1) := by decide +kernel
theorem d_3_14 : decode method_3_code 14 = .ok (.newarray .char, 2) := by decide +kernel
theorem d_3_16 : decode method_3_code 16 = .ok (.dup, 1) := by decide +kernel
theorem d_3_17 : decode method_3_code 17 = .ok (.iconst 0, 1) := by decide +kernel
theorem d_3_18 : decode method_3_code 18 = .ok (.iload_n 1, 1) := by decide +kernel
theorem d_3_19 : decode method_3_code 19 = .ok (.sipush 255, 3) := by decide +kernel
theorem d_3_22 : decode method_3_code 22 = .ok (.iand, 1) := by decide +kernel
theorem d_3_23 : decode method_3_code 23 = .ok (.i2c, 1) := by decide +kernel
theorem d_3_24 : decode method_3_code 24 = .ok (.castore, 1) := by decide +kernel
theorem d_3_25 : decode method_3_code 25 = .ok (.dup, 1) := by decide +kernel
theorem d_3_26 : decode method_3_code 26 = .ok (.iconst 1, 1) := by decide +kernel
theorem d_3_27 : decode method_3_code 27 = .ok (.iload_n 2, 1) := by decide +kernel
theorem d_3_28 : decode method_3_code 28 = .ok (.sipush 255, 3) := by decide +kernel
theorem d_3_31 : decode method_3_code 31 = .ok (.iand, 1) := by decide +kernel
theorem d_3_32 : decode method_3_code 32 = .ok (.i2c, 1) := by decide +kernel
theorem d_3_33 : decode method_3_code 33 = .ok (.castore, 1) := by decide +kernel
theorem d_3_34 : decode method_3_code 34 = .ok (.astore 4, 2) := by decide +kernel
theorem d_3_36 : decode method_3_code 36 = .ok (.iload_n 3, 1) := by decide +kernel
theorem d_3_37 : decode method_3_code 37 = .ok (.ifCond .ne 14, 3) := by decide +kernel
theorem d_3_40 : decode method_3_code 40 = .ok (.new 22, 3) := by decide +kernel
theorem d_3_43 : decode method_3_code 43 = .ok (.dup, 1) := by decide +kernel
theorem d_3_44 : decode method_3_code 44 = .ok (.iconst 0, 1) := by decide +kernel
theorem d_3_45 : decode method_3_code 45 = .ok (.newarray .char, 2) := by decide +kernel
theorem d_3_47 : decode method_3_code 47 = .ok (.invokespecial 24, 3) := by decide +kernel
theorem pd_4 : parseMethodDescriptor "([C)V" = some ⟨[(.array .char)], none⟩ := by decide +kernel
theorem d_3_50 : decode method_3_code 50 = .ok (.areturn, 1) := by decide +kernel
theorem d_3_51 : decode method_3_code 51 = .ok (.iload_n 3, 1) := by decide +kernel
theorem d_3_52 : decode method_3_code 52 = .ok (.iconst 1, 1) := by decide +kernel
theorem d_3_53 : decode method_3_code 53 = .ok (.if_icmp .ne 11, 3) := by decide +kernel
theorem d_3_56 : decode method_3_code 56 = .ok (.aload 4, 2) := by decide +kernel
theorem d_3_58 : decode method_3_code 58 = .ok (.iconst 0, 1) := by decide +kernel
theorem d_3_59 : decode method_3_code 59 = .ok (.caload, 1) := by decide +kernel
theorem d_3_60 : decode method_3_code 60 = .ok (.invokestatic 27, 3) := by decide +kernel
theorem pd_5 : parseMethodDescriptor "(C)Ljava/lang/String;" = some ⟨[.char], some (.object "java/lang/String")⟩ := by decide +kernel
theorem d_3_63 : decode method_3_code 63 = .ok (.areturn, 1) := by decide +kernel
theorem d_3_64 : decode method_3_code 64 = .ok (.new 22, 3) := by decide +kernel
theorem d_3_67 : decode method_3_code 67 = .ok (.dup, 1) := by decide +kernel
theorem d_3_68 : decode method_3_code 68 = .ok (.aload 4, 2) := by decide +kernel
theorem d_3_70 : decode method_3_code 70 = .ok (.invokespecial 24, 3) := by decide +kernel
theorem d_3_73 : decode method_3_code 73 = .ok (.areturn, 1) := by decide +kernel
set_option maxRecDepth 65536 in
set_option maxHeartbeats 40000000 in
theorem rm_reason (l : Launch) {Z : State} {a0 : Array Value} (hD : Wd Z a0) (t : Int32) (c0 : Int32) (c1 : Int32) {h0 : Heap} (O0 : Ext Z.heap h0) :
    ConH l Z EL (⟨"com/example/driftkey/driftkey/storage/WriteResultRefusedPinLaw", "reason", "(III)Ljava/lang/String;"⟩ : MethodName) method_3_code 5 (some (.object "java/lang/String")) [] ({ frames := 4, cells := 7, slots := 14, locals := 66 } : Room) #[(.int t), (.int c0), (.int c1)] h0 [] (Q_reason Z t c0 c1 h0) := by
  refine ConH.walk (plainFor_of_name pn_2) ?_
  intro p e s vm0 k0 m below meth c T0 X0 hS0 hk0 hx hZ hby hml hown hnm hret hlk e0 A0 hss
  obtain ⟨hw, ⟨cz, S_CS, hcz⟩, ⟨k0, k1, k2, k3, kr, S_K0, S_K1, S_K2, S_K3, S_KR⟩, ⟨ust, sen, ⟨S_US, hus⟩, ⟨S_SE, hsen⟩⟩⟩ := id hD
  have N0 := Fr.nil Z.heap.size
  have K0 : Keep h0 h0 [] := Keep.refl _ _
  have hEL : EW Z a0 EL := el_of hw
  have hsa : ∀ a ∈ Bundle.stringAtoms, a.before a0 Z = true := fun d hd => hw d (words_sa d hd)
  refine OEndsH.cast (ef_reason m t c0 c1) ?_
  have hws : ∀ d ∈ StrChars.Road.words, d.before a0 Z = true := fun d hd => hw d (words_new d hd)
  refine OEndsH.st (S' := T0.setTop (mkF m 6 #[vi t, vi c0, vi c1, vi (((t.toUInt32 >>> ((2 : Int32) &&& 31).toUInt32).toInt32) % (3 : Int32)), .unset] [])) (fun _ k => ?_) ?_
  · refine XS.iloadN X0.here hx rfl (hb hby d_3_0) rfl ?_
    refine XS.iconst X0.here hx rfl (hb hby d_3_1) ?_
    refine XS.iushr X0.here hx rfl (hb hby d_3_2) rfl ?_
    refine XS.iconst X0.here hx rfl (hb hby d_3_3) ?_
    show Steps p.tables e below (T0.setTop (mkF m 4 #[vi t, vi c0, vi c1, .unset, .unset] [(.int 3), (.int ((t.toUInt32 >>> ((2 : Int32) &&& 31).toUInt32).toInt32))])) _
    refine iremM X0 hx rfl (hb hby d_3_4) rfl (by decide) ?_
    refine XS.istoreN X0.here hx rfl (hb hby d_3_5) rfl (l' := #[vi t, vi c0, vi c1, vi (((t.toUInt32 >>> ((2 : Int32) &&& 31).toUInt32).toInt32) % (3 : Int32)), .unset]) rfl ?_
    exact k
  generalize hg_ln : (((t.toUInt32 >>> ((2 : Int32) &&& 31).toUInt32).toInt32) % (3 : Int32)) = ln
  refine OEndsH.st (S' := T0.setTop (mkF m 7 #[vi t, vi c0, vi c1, vi ln, .unset] [(.int ln)])) (fun _ k => ?_) ?_
  · refine XS.iloadN X0.here hx rfl (hb hby d_3_6) rfl ?_
    exact k
  rcases Classical.em (ln < (0 : Int32)) with hng | hng
  · refine OEndsH.st (S' := T0.setTop (mkF m 14 #[vi t, vi c0, vi c1, vi (-ln), .unset] [(.int 2)])) (fun _ k => ?_) ?_
    · refine XS.ifNo X0.here hx rfl (hb hby d_3_7) rfl ((if0 _ _).trans (tlt hng).2.1) ?_
      refine XS.iloadN X0.here hx rfl (hb hby d_3_10) rfl ?_
      refine XS.ineg X0.here hx rfl (hb hby d_3_11) rfl ?_
      refine XS.istoreN X0.here hx rfl (hb hby d_3_12) rfl (l' := #[vi t, vi c0, vi c1, vi (-ln), .unset]) rfl ?_
      show Steps p.tables e below (T0.setTop (mkF m 13 #[vi t, vi c0, vi c1, vi (-ln), .unset] [])) _
      refine XS.iconst X0.here hx rfl (hb hby d_3_13) ?_
      exact k
    obtain ⟨T1, h1, k1, X1, e1, E1, A1, st1⟩ := newP X0 hx hZ (wq hw 10 rfl) e0 (g := (mkF m 14 #[vi t, vi c0, vi c1, vi (-ln), .unset] [(.int 2)])) rfl (hb hby d_3_14) rfl (by decide) (cap := 2) (by decide) (by decide) (by decide) (by decide)
    obtain ⟨b1, g1⟩ : ∃ z, z = h0.size := ⟨_, rfl⟩
    rw [← g1] at A1 st1
    refine OEndsH.st st1 ?_
    have ge_b1 : Z.heap.size ≤ b1 := Nat.le_trans O0.1 (Nat.le_of_eq g1.symm)
    have sz_b1 : h0.size ≤ b1 := Nat.le_trans K0.1 (Nat.le_of_eq g1.symm)
    have S_b1 : Safe Z EL vm0 h0 b1 := Safe.new (Nat.le_of_eq g1.symm)
    have S_b1' : Safe Z EL vm0 h1 b1 := Safe.ext E1 A0.1 S_b1
    have A' : CHr Z EL s.vm s.heap vm0 h1 := A0.trans (CHr.ext E1 A0.1)
    replace S_b1 := S_b1'
    replace A0 := A'
    replace hk0 := Nat.le_trans hk0 E1.1
    replace O0 : Ext Z.heap h1 := ext_trans O0 E1
    replace K0 : Keep h0 h1 [] := K0.ext E1
    have V_b1 : Arv Z h1 b1 k1 .char (2 : Int32) [(.int 0), (.int 0)] (.int 0) := (Arv.new A1 (by decide)).pad (pad_rep [] (.int 0) 2)
    refine OEndsH.st (S' := T1.setTop (mkF m 24 #[vi t, vi c0, vi c1, vi (-ln), .unset] [(.int ((c0 &&& (255 : Int32)).toUInt32.toUInt16.toUInt32.toInt32)), (.int 0), (.ref b1), (.ref b1)])) (fun _ k => ?_) ?_
    · refine XS.dup X1.here hx rfl (hb hby d_3_16) rfl rfl ?_
      refine XS.iconst X1.here hx rfl (hb hby d_3_17) ?_
      refine XS.iloadN X1.here hx rfl (hb hby d_3_18) rfl ?_
      refine XS.sipush X1.here hx rfl (hb hby d_3_19) ?_
      show Steps p.tables e below (T1.setTop (mkF m 22 #[vi t, vi c0, vi c1, vi (-ln), .unset] [(.int 255), (.int c0), (.int 0), (.ref b1), (.ref b1)])) _
      refine XS.iand X1.here hx rfl (hb hby d_3_22) rfl ?_
      refine XS.i2c X1.here hx rfl (hb hby d_3_23) rfl ?_
      exact k
    generalize hg_x0 : ((c0 &&& (255 : Int32)).toUInt32.toUInt16.toUInt32.toInt32) = x0
    have hx0 : ¬ x0 < 0 ∧ ¬ (255 : Int32) < x0 := hg_x0 ▸ i2c255
    obtain ⟨cl_b1_2, Ar_b1_2, q_b1_2, S_b1_2, N_b1_2, H_b1_2, G_b1_2⟩ := V_b1
    obtain ⟨T2, h2, X2, e2, W2, st2⟩ := stC X1 hx hZ e1 Ar_b1_2 (j := (0 : Int32)) (inb_of S_b1_2 ⟨by decide, by decide⟩) (g := (mkF m 24 #[vi t, vi c0, vi c1, vi (-ln), .unset] [(.int x0), (.int 0), (.ref b1), (.ref b1)])) rfl rfl (hb hby d_3_24)
    have V_b1_2 : Arv Z h2 b1 k1 .char (2 : Int32) [(.int (nar .char x0)), (.int 0)] (.int 0) := Arv.set Ar_b1_2 q_b1_2 S_b1_2 N_b1_2 H_b1_2 G_b1_2 (fits_nar_char _) W2 0 rfl (Nat.le_of_ble_eq_true rfl)
    refine OEndsH.st st2 ?_
    have S_b1' : Safe Z EL vm0 h2 b1 := Safe.wr W2 S_b1 A0.1 S_b1
    have A' : CHr Z EL s.vm s.heap vm0 h2 := A0.trans (CHr.wr W2 S_b1 A0.1)
    replace S_b1 := S_b1'
    replace A0 := A'
    replace hk0 := Nat.le_trans hk0 (Keep.of_wr W2).1
    replace O0 : Ext Z.heap h2 := ext_wr O0 W2 ge_b1
    replace N0 := Fr.snoc X2 N0 ge_b1
    replace K0 : Keep h0 h2 [] := K0.wr W2 (Or.inr sz_b1)
    refine OEndsH.st (S' := T2.setTop (mkF m 33 #[vi t, vi c0, vi c1, vi (-ln), .unset] [(.int ((c1 &&& (255 : Int32)).toUInt32.toUInt16.toUInt32.toInt32)), (.int 1), (.ref b1), (.ref b1)])) (fun _ k => ?_) ?_
    · refine XS.dup X2.here hx rfl (hb hby d_3_25) rfl rfl ?_
      refine XS.iconst X2.here hx rfl (hb hby d_3_26) ?_
      refine XS.iloadN X2.here hx rfl (hb hby d_3_27) rfl ?_
      refine XS.sipush X2.here hx rfl (hb hby d_3_28) ?_
      show Steps p.tables e below (T2.setTop (mkF m 31 #[vi t, vi c0, vi c1, vi (-ln), .unset] [(.int 255), (.int c1), (.int 1), (.ref b1), (.ref b1)])) _
      refine XS.iand X2.here hx rfl (hb hby d_3_31) rfl ?_
      refine XS.i2c X2.here hx rfl (hb hby d_3_32) rfl ?_
      exact k
    generalize hg_x1 : ((c1 &&& (255 : Int32)).toUInt32.toUInt16.toUInt32.toInt32) = x1
    have hx1 : ¬ x1 < 0 ∧ ¬ (255 : Int32) < x1 := hg_x1 ▸ i2c255
    obtain ⟨cl_b1_3, Ar_b1_3, q_b1_3, S_b1_3, N_b1_3, H_b1_3, G_b1_3⟩ := V_b1_2
    obtain ⟨T3, h3, X3, e3, W3, st3⟩ := stC X2 hx hZ e2 Ar_b1_3 (j := (1 : Int32)) (inb_of S_b1_3 ⟨by decide, by decide⟩) (g := (mkF m 33 #[vi t, vi c0, vi c1, vi (-ln), .unset] [(.int x1), (.int 1), (.ref b1), (.ref b1)])) rfl rfl (hb hby d_3_33)
    have V_b1_3 : Arv Z h3 b1 k1 .char (2 : Int32) [(.int (nar .char x0)), (.int (nar .char x1))] (.int 0) := Arv.set Ar_b1_3 q_b1_3 S_b1_3 N_b1_3 H_b1_3 G_b1_3 (fits_nar_char _) W3 1 rfl (Nat.le_of_ble_eq_true rfl)
    refine OEndsH.st st3 ?_
    have S_b1' : Safe Z EL vm0 h3 b1 := Safe.wr W3 S_b1 A0.1 S_b1
    have A' : CHr Z EL s.vm s.heap vm0 h3 := A0.trans (CHr.wr W3 S_b1 A0.1)
    replace S_b1 := S_b1'
    replace A0 := A'
    replace hk0 := Nat.le_trans hk0 (Keep.of_wr W3).1
    replace O0 : Ext Z.heap h3 := ext_wr O0 W3 ge_b1
    replace N0 := Fr.snoc X3 N0 ge_b1
    replace K0 : Keep h0 h3 [] := K0.wr W3 (Or.inr sz_b1)
    refine OEndsH.st (S' := T3.setTop (mkF m 37 #[vi t, vi c0, vi c1, vi (-ln), vr b1] [(.int (-ln))])) (fun _ k => ?_) ?_
    · refine XS.astore X3.here hx rfl (hb hby d_3_34) rfl rfl (l' := #[vi t, vi c0, vi c1, vi (-ln), vr b1]) rfl ?_
      refine XS.iloadN X3.here hx rfl (hb hby d_3_36) rfl ?_
      exact k
    rcases Classical.em ((-ln) = (0 : Int32)) with hl0 | hl0
    · refine OEndsH.st (S' := T3.setTop (mkF m 40 #[vi t, vi c0, vi c1, vi (-ln), vr b1] [])) (fun _ k => ?_) ?_
      · refine XS.ifNo X3.here hx rfl (hb hby d_3_37) rfl ((if0 _ _).trans (teq hl0).2) ?_
        exact k
      obtain ⟨T4, h4, X4, e4, E4, A4, D4, U4, st4⟩ := newO X3 hx hZ hown (wq hw 11 rfl) (wq hw 12 rfl) (wq hw 13 rfl) e3 (g := (mkF m 40 #[vi t, vi c0, vi c1, vi (-ln), vr b1] [])) rfl (hb hby d_3_40) (by decide) (by decide)
      obtain ⟨b4, g4⟩ : ∃ z, z = h3.size := ⟨_, rfl⟩
      rw [← g4] at A4 D4 U4 st4
      refine OEndsH.st st4 ?_
      have ne_b1_b4 : b1 ≠ b4 := Nat.ne_of_lt (Nat.lt_of_lt_of_le V_b1_3.lt (Nat.le_of_eq g4.symm))
      have ge_b4 : Z.heap.size ≤ b4 := Nat.le_trans O0.1 (Nat.le_of_eq g4.symm)
      have sz_b4 : h0.size ≤ b4 := Nat.le_trans K0.1 (Nat.le_of_eq g4.symm)
      have S_b4 : Safe Z EL vm0 h3 b4 := Safe.new (Nat.le_of_eq g4.symm)
      replace V_b1_3 := V_b1_3.ext E4
      have S_b1' : Safe Z EL vm0 h4 b1 := Safe.ext E4 A0.1 S_b1
      have S_b4' : Safe Z EL vm0 h4 b4 := Safe.ext E4 A0.1 S_b4
      have A' : CHr Z EL s.vm s.heap vm0 h4 := A0.trans (CHr.ext E4 A0.1)
      replace S_b1 := S_b1'
      replace S_b4 := S_b4'
      replace A0 := A'
      replace hk0 := Nat.le_trans hk0 E4.1
      replace O0 : Ext Z.heap h4 := ext_trans O0 E4
      replace K0 : Keep h0 h4 [] := K0.ext E4
      have F_value_b4 : Fld Z h4 b4 "java/lang/String" "value" "[B" .null := D4 (Or.inr (wq hw 26 rfl)) (ty := (.array .byte)) (by decide)
      have F_coder_b4 : Fld Z h4 b4 "java/lang/String" "coder" "B" (.int 0) := D4 (Or.inr (wq hw 27 rfl)) (ty := .byte) (by decide)
      refine OEndsH.st (S' := T4.setTop (mkF m 45 #[vi t, vi c0, vi c1, vi (-ln), vr b1] [(.int 0), (.ref b4), (.ref b4)])) (fun _ k => ?_) ?_
      · refine XS.dup X4.here hx rfl (hb hby d_3_43) rfl rfl ?_
        refine XS.iconst X4.here hx rfl (hb hby d_3_44) ?_
        exact k
      obtain ⟨T5, h5, k5, X5, e5, E5, A5, st5⟩ := newP X4 hx hZ (wq hw 10 rfl) e4 (g := (mkF m 45 #[vi t, vi c0, vi c1, vi (-ln), vr b1] [(.int 0), (.ref b4), (.ref b4)])) rfl (hb hby d_3_45) rfl (by decide) (cap := 0) (by decide) (by decide) (by decide) (by decide)
      obtain ⟨b5, g5⟩ : ∃ z, z = h4.size := ⟨_, rfl⟩
      rw [← g5] at A5 st5
      refine OEndsH.st st5 ?_
      have ne_b1_b5 : b1 ≠ b5 := Nat.ne_of_lt (Nat.lt_of_lt_of_le V_b1_3.lt (Nat.le_of_eq g5.symm))
      have ne_b4_b5 : b4 ≠ b5 := Nat.ne_of_lt (Nat.lt_of_lt_of_le A4.lt (Nat.le_of_eq g5.symm))
      have ge_b5 : Z.heap.size ≤ b5 := Nat.le_trans O0.1 (Nat.le_of_eq g5.symm)
      have sz_b5 : h0.size ≤ b5 := Nat.le_trans K0.1 (Nat.le_of_eq g5.symm)
      have S_b5 : Safe Z EL vm0 h4 b5 := Safe.new (Nat.le_of_eq g5.symm)
      replace V_b1_3 := V_b1_3.ext E5
      replace A4 := A4.ext E5
      replace F_value_b4 := F_value_b4.ext E5
      replace F_coder_b4 := F_coder_b4.ext E5
      have S_b1' : Safe Z EL vm0 h5 b1 := Safe.ext E5 A0.1 S_b1
      have S_b4' : Safe Z EL vm0 h5 b4 := Safe.ext E5 A0.1 S_b4
      have S_b5' : Safe Z EL vm0 h5 b5 := Safe.ext E5 A0.1 S_b5
      have A' : CHr Z EL s.vm s.heap vm0 h5 := A0.trans (CHr.ext E5 A0.1)
      replace S_b1 := S_b1'
      replace S_b4 := S_b4'
      replace S_b5 := S_b5'
      replace A0 := A'
      replace hk0 := Nat.le_trans hk0 E5.1
      replace O0 : Ext Z.heap h5 := ext_trans O0 E5
      replace K0 : Keep h0 h5 [] := K0.ext E5
      have V_b5 : Arv Z h5 b5 k5 .char (0 : Int32) [] (.int 0) := Arv.new A5 (by decide)
      obtain ⟨_, T6, h6, L6, vm6, k16, X6, e6, hQ6, hS6, hk6, hZ6, hown6, Aq6, st6⟩ := specH X5 hx hZ rfl hown (wq hw 14 rfl) (wq hw 15 rfl) (wq hw 16 rfl) (by decide) (kc := 4) (ks := 8) (ConH.sb (W := 1) (rm_strE1 l hD b4 b5 k5 O0 A4 F_value_b4 F_coder_b4 ge_b4 V_b5) hZ (wq hw 16 rfl) (wq hw 13 rfl) (by decide) (by decide) hEL A0.1 (allS ⟨A4.lt, S_b4⟩ all0)) e5 hS0 hk0 (a := b4) (g := (mkF m 47 #[vi t, vi c0, vi c1, vi (-ln), vr b1] [(.ref b5), (.ref b4), (.ref b4)])) rfl (by rw [hml]; rfl) (argsL := [(.ref b5)]) (rest := [(.ref b4)]) (lenOf pd_4 rfl) rfl (by show 2 * 0 + _ ≤ _; exact Nat.le_of_eq rfl) (hb hby d_3_47) (by decide) (by decide)
      obtain ⟨rfl, Nq6, Kq6⟩ := hQ6
      replace S_b1 : Safe Z EL vm6 h6 b1 := Aq6.safe V_b1_3.lt S_b1
      replace S_b4 : Safe Z EL vm6 h6 b4 := Aq6.safe A4.lt S_b4
      replace S_b5 : Safe Z EL vm6 h6 b5 := Aq6.safe V_b5.lt S_b5
      replace A0 : CHr Z EL s.vm s.heap vm6 h6 := A0.trans Aq6
      refine OEndsH.st st6 ?_
      replace N0 := Fr.app N0 Nq6
      replace V_b1_3 := V_b1_3.keep Kq6 (ninS ne_b1_b4 nin0)
      replace A4 := A4.keep Kq6
      replace V_b5 := V_b5.keep Kq6 (ninS (Ne.symm ne_b4_b5) nin0)
      replace O0 : Ext Z.heap h6 := ext_keep O0 Kq6 (allS ge_b4 all0)
      replace K0 : Keep h0 h6 [] := K0.trans Kq6 (allS (Or.inr sz_b4) all0)
      exact OEndsH.ret X6 hx hZ6 hEL e6 hS6 hk6 A0 hret hlk rfl (Or.inr (Or.inr (Or.inr (Or.inr ⟨rfl, rfl, rfl⟩)))) (hb hby d_3_50) (by decide) (by decide) ⟨b4, rfl, N0, K0⟩
    · refine OEndsH.st (S' := T3.setTop (mkF m 53 #[vi t, vi c0, vi c1, vi (-ln), vr b1] [(.int 1), (.int (-ln))])) (fun _ k => ?_) ?_
      · refine XS.ifYes X3.here hx rfl (pc0 := 37) (pc' := 51) rfl (hb hby d_3_37) rfl ((if0 _ _).trans (feq hl0).2) (by decide) (by decide) ?_
        refine XS.iloadN X3.here hx rfl (hb hby d_3_51) rfl ?_
        refine XS.iconst X3.here hx rfl (hb hby d_3_52) ?_
        exact k
      rcases Classical.em ((-ln) = (1 : Int32)) with hl1 | hl1
      · refine OEndsH.st (S' := T3.setTop (mkF m 59 #[vi t, vi c0, vi c1, vi (-ln), vr b1] [(.int 0), (.ref b1)])) (fun _ k => ?_) ?_
        · refine XS.icmpNo X3.here hx rfl (hb hby d_3_53) rfl (teq hl1).2 ?_
          refine XS.aload X3.here hx rfl (hb hby d_3_56) rfl rfl ?_
          refine XS.iconst X3.here hx rfl (hb hby d_3_58) ?_
          exact k
        simp only [nar_char hx0, nar_char hx1] at V_b1_3
        obtain ⟨cl_b1_4, Ar_b1_4, q_b1_4, S_b1_4, N_b1_4, H_b1_4, G_b1_4⟩ := id V_b1_3
        refine OEndsH.st (S' := T3.setTop (mkF m 60 #[vi t, vi c0, vi c1, vi (-ln), vr b1] [(.int x0)])) (X3.caload hx (j := (0 : Int32)) (v := (.int x0)) (by rw [e3]; exact Ar_b1_4.1) (State.isArrayOf_alike hZ.alike Ar_b1_4.2.1) Ar_b1_4.2.2 (inb_of S_b1_4 ⟨by decide, by decide⟩) (H_b1_4.at (inb_of S_b1_4 ⟨by decide, by decide⟩) rfl) (g := (mkF m 59 #[vi t, vi c0, vi c1, vi (-ln), vr b1] [(.int 0), (.ref b1)])) rfl rfl (hb hby d_3_59)) ?_
        obtain ⟨_, T5, h5, L5, X5, e5, hQ5, st5⟩ := callC X3 hx hZ hown (wq hw 145 rfl) (wq hw 146 rfl) (wq hw 13 rfl) (wq hw 147 rfl) (by decide) (kc := 2) (ks := 5) (Con.sb (W := 0) (rm_valueOfC l hD x0 O0 hx0.2) hZ (wq hw 147 rfl) (wq hw 13 rfl) (by decide) (by decide)) e3 (g := (mkF m 60 #[vi t, vi c0, vi c1, vi (-ln), vr b1] [(.int x0)])) rfl (by rw [hml]; rfl) (argsL := [(.int x0)]) (rest := []) (lenOf pd_5 rfl) rfl (by show 2 * 0 + _ ≤ _; exact Nat.le_of_eq rfl) (hb hby d_3_60) (by decide) (by decide)
        obtain ⟨r5, t5, k5, rfl, Nq5, Kq5, szr5, szt5, nrt5, Eq5, Fc5, Fv5, V5⟩ := hQ5
        refine OEndsH.st st5 ?_
        replace N0 := Fr.app N0 Nq5
        have ne_b1_r5 : b1 ≠ r5 := Nat.ne_of_lt (Nat.lt_of_lt_of_le V_b1_3.lt szr5)
        have ge_r5 : Z.heap.size ≤ r5 := Nat.le_trans O0.1 szr5
        have S_r5 : Safe Z EL vm0 h3 r5 := Safe.new szr5
        have sz_r5 : h0.size ≤ r5 := Nat.le_trans K0.1 szr5
        have ne_b1_t5 : b1 ≠ t5 := Nat.ne_of_lt (Nat.lt_of_lt_of_le V_b1_3.lt szt5)
        have ge_t5 : Z.heap.size ≤ t5 := Nat.le_trans O0.1 szt5
        have S_t5 : Safe Z EL vm0 h3 t5 := Safe.new szt5
        have sz_t5 : h0.size ≤ t5 := Nat.le_trans K0.1 szt5
        replace V_b1_3 := V_b1_3.keep Kq5 nin0
        have S_b1' : Safe Z EL vm0 h5 b1 := Safe.keep Kq5 sf0 A0.1 S_b1
        have S_r5' : Safe Z EL vm0 h5 r5 := Safe.keep Kq5 sf0 A0.1 S_r5
        have S_t5' : Safe Z EL vm0 h5 t5 := Safe.keep Kq5 sf0 A0.1 S_t5
        have A' : CHr Z EL s.vm s.heap vm0 h5 := A0.trans (CHr.keep Kq5 sf0 A0.1)
        replace S_b1 := S_b1'
        replace S_r5 := S_r5'
        replace S_t5 := S_t5'
        replace A0 := A'
        replace hk0 := Nat.le_trans hk0 Kq5.1
        replace O0 : Ext Z.heap h5 := ext_keep O0 Kq5 all0
        replace K0 : Keep h0 h5 [] := K0.trans Kq5 all0
        replace V5 : Arv Z h5 t5 k5 .byte (Int32.ofNat 1) [.int x0.toInt8.toInt32] (.int 0) := V5
        exact OEndsH.ret X5 hx hZ hEL e5 hS0 hk0 A0 hret hlk rfl (Or.inr (Or.inr (Or.inr (Or.inr ⟨rfl, rfl, rfl⟩)))) (hb hby d_3_63) (by decide) (by decide) ⟨r5, rfl, N0, K0⟩
      · refine OEndsH.st (S' := T3.setTop (mkF m 64 #[vi t, vi c0, vi c1, vi (-ln), vr b1] [])) (fun _ k => ?_) ?_
        · refine XS.icmpYes X3.here hx rfl (pc0 := 53) (pc' := 64) rfl (hb hby d_3_53) rfl (feq hl1).2 (by decide) (by decide) ?_
          exact k
        obtain ⟨T4, h4, X4, e4, E4, A4, D4, U4, st4⟩ := newO X3 hx hZ hown (wq hw 11 rfl) (wq hw 12 rfl) (wq hw 13 rfl) e3 (g := (mkF m 64 #[vi t, vi c0, vi c1, vi (-ln), vr b1] [])) rfl (hb hby d_3_64) (by decide) (by decide)
        obtain ⟨b4, g4⟩ : ∃ z, z = h3.size := ⟨_, rfl⟩
        rw [← g4] at A4 D4 U4 st4
        refine OEndsH.st st4 ?_
        have ne_b1_b4 : b1 ≠ b4 := Nat.ne_of_lt (Nat.lt_of_lt_of_le V_b1_3.lt (Nat.le_of_eq g4.symm))
        have ge_b4 : Z.heap.size ≤ b4 := Nat.le_trans O0.1 (Nat.le_of_eq g4.symm)
        have sz_b4 : h0.size ≤ b4 := Nat.le_trans K0.1 (Nat.le_of_eq g4.symm)
        have S_b4 : Safe Z EL vm0 h3 b4 := Safe.new (Nat.le_of_eq g4.symm)
        replace V_b1_3 := V_b1_3.ext E4
        have S_b1' : Safe Z EL vm0 h4 b1 := Safe.ext E4 A0.1 S_b1
        have S_b4' : Safe Z EL vm0 h4 b4 := Safe.ext E4 A0.1 S_b4
        have A' : CHr Z EL s.vm s.heap vm0 h4 := A0.trans (CHr.ext E4 A0.1)
        replace S_b1 := S_b1'
        replace S_b4 := S_b4'
        replace A0 := A'
        replace hk0 := Nat.le_trans hk0 E4.1
        replace O0 : Ext Z.heap h4 := ext_trans O0 E4
        replace K0 : Keep h0 h4 [] := K0.ext E4
        have F_value_b4 : Fld Z h4 b4 "java/lang/String" "value" "[B" .null := D4 (Or.inr (wq hw 26 rfl)) (ty := (.array .byte)) (by decide)
        have F_coder_b4 : Fld Z h4 b4 "java/lang/String" "coder" "B" (.int 0) := D4 (Or.inr (wq hw 27 rfl)) (ty := .byte) (by decide)
        refine OEndsH.st (S' := T4.setTop (mkF m 70 #[vi t, vi c0, vi c1, vi (-ln), vr b1] [(.ref b1), (.ref b4), (.ref b4)])) (fun _ k => ?_) ?_
        · refine XS.dup X4.here hx rfl (hb hby d_3_67) rfl rfl ?_
          refine XS.aload X4.here hx rfl (hb hby d_3_68) rfl rfl ?_
          exact k
        simp only [nar_char (x := x0) hx0, nar_char (x := x1) hx1] at V_b1_3
        have hp5 : ∀ c ∈ ([x0, x1] : List Int32), ¬ c < 0 ∧ ¬ (255 : Int32) < c := by
          intro c hc; simp only [List.mem_cons, List.not_mem_nil, or_false] at hc
          rcases hc with rfl | rfl
          · exact hx0
          · exact hx1
        obtain ⟨_, T6, h6, L6, X6, e6, hQ6, st6⟩ := specC X4 hx hZ rfl hown (wq hw 14 rfl) (wq hw 15 rfl) (wq hw 16 rfl) (by decide) (kc := 1) (ks := 2) (SB.of (Q := StrChars.Road.QV Z b4 (2 : Int32) (([x0, x1] : List Int32).map (fun c => c.toInt8.toInt32)) h4 Z.heap.size) (StrChars.Road.backV (W := 1) hZ hws (kI := 4) (wq hw 12 rfl) (cs := ([x0, x1] : List Int32)) (bs := (([x0, x1] : List Int32).map (fun c => c.toInt8.toInt32))) (n := 2) ge_b4 O0.1 A4 F_value_b4 F_coder_b4 V_b1_3 (S_CS.ext O0) hcz rfl rfl (by decide) (by decide) hp5 rfl (by decide) (by decide))) e4 (a := b4) (g := (mkF m 70 #[vi t, vi c0, vi c1, vi (-ln), vr b1] [(.ref b1), (.ref b4), (.ref b4)])) rfl (by rw [hml]; rfl) (argsL := [(.ref b1)]) (rest := [(.ref b4)]) (lenOf pd_4 rfl) rfl (by show 2 * 0 + _ ≤ _; exact Nat.le_of_eq rfl) (hb hby d_3_70) (by decide) (by decide)
        obtain ⟨rfl, Nq6, Kq6, Eq6, Fc6, t6, kb6, gq6, szq6, nq6, Fv6, V6⟩ := hQ6
        refine OEndsH.st st6 ?_
        replace N0 := Fr.app N0 Nq6
        have ne_b1_t6 : b1 ≠ t6 := Nat.ne_of_lt (Nat.lt_of_lt_of_le V_b1_3.lt szq6)
        have ne_b4_t6 : b4 ≠ t6 := Nat.ne_of_lt (Nat.lt_of_lt_of_le A4.lt szq6)
        have ge_t6 : Z.heap.size ≤ t6 := Nat.le_trans O0.1 szq6
        have S_t6 : Safe Z EL vm0 h4 t6 := Safe.new szq6
        have sz_t6 : h0.size ≤ t6 := Nat.le_trans K0.1 szq6
        replace V_b1_3 := V_b1_3.keep Kq6 (ninS ne_b1_b4 nin0)
        replace A4 := A4.keep Kq6
        have S_b1' : Safe Z EL vm0 h6 b1 := Safe.keep Kq6 (sfS S_b4 sf0) A0.1 S_b1
        have S_b4' : Safe Z EL vm0 h6 b4 := Safe.keep Kq6 (sfS S_b4 sf0) A0.1 S_b4
        have S_t6' : Safe Z EL vm0 h6 t6 := Safe.keep Kq6 (sfS S_b4 sf0) A0.1 S_t6
        have A' : CHr Z EL s.vm s.heap vm0 h6 := A0.trans (CHr.keep Kq6 (sfS S_b4 sf0) A0.1)
        replace S_b1 := S_b1'
        replace S_b4 := S_b4'
        replace S_t6 := S_t6'
        replace A0 := A'
        replace hk0 := Nat.le_trans hk0 Kq6.1
        replace O0 : Ext Z.heap h6 := ext_keep O0 Kq6 (allS ge_b4 all0)
        replace K0 : Keep h0 h6 [] := K0.trans Kq6 (allS (Or.inr sz_b4) all0)
        replace V6 : Arv Z h6 t6 kb6 .byte (Int32.ofNat 2) [(.int (x0).toInt8.toInt32), (.int (x1).toInt8.toInt32)] (.int 0) := V6
        clear V_b1_3
        exact OEndsH.ret X6 hx hZ hEL e6 hS0 hk0 A0 hret hlk rfl (Or.inr (Or.inr (Or.inr (Or.inr ⟨rfl, rfl, rfl⟩)))) (hb hby d_3_73) (by decide) (by decide) ⟨b4, rfl, N0, K0⟩
  · refine OEndsH.st (S' := T0.setTop (mkF m 14 #[vi t, vi c0, vi c1, vi ln, .unset] [(.int 2)])) (fun _ k => ?_) ?_
    · refine XS.ifYes X0.here hx rfl (pc0 := 7) (pc' := 13) rfl (hb hby d_3_7) rfl ((if0 _ _).trans (flt hng).2.1) (by decide) (by decide) ?_
      refine XS.iconst X0.here hx rfl (hb hby d_3_13) ?_
      exact k
    obtain ⟨T1, h1, k1, X1, e1, E1, A1, st1⟩ := newP X0 hx hZ (wq hw 10 rfl) e0 (g := (mkF m 14 #[vi t, vi c0, vi c1, vi ln, .unset] [(.int 2)])) rfl (hb hby d_3_14) rfl (by decide) (cap := 2) (by decide) (by decide) (by decide) (by decide)
    obtain ⟨b1, g1⟩ : ∃ z, z = h0.size := ⟨_, rfl⟩
    rw [← g1] at A1 st1
    refine OEndsH.st st1 ?_
    have ge_b1 : Z.heap.size ≤ b1 := Nat.le_trans O0.1 (Nat.le_of_eq g1.symm)
    have sz_b1 : h0.size ≤ b1 := Nat.le_trans K0.1 (Nat.le_of_eq g1.symm)
    have S_b1 : Safe Z EL vm0 h0 b1 := Safe.new (Nat.le_of_eq g1.symm)
    have S_b1' : Safe Z EL vm0 h1 b1 := Safe.ext E1 A0.1 S_b1
    have A' : CHr Z EL s.vm s.heap vm0 h1 := A0.trans (CHr.ext E1 A0.1)
    replace S_b1 := S_b1'
    replace A0 := A'
    replace hk0 := Nat.le_trans hk0 E1.1
    replace O0 : Ext Z.heap h1 := ext_trans O0 E1
    replace K0 : Keep h0 h1 [] := K0.ext E1
    have V_b1 : Arv Z h1 b1 k1 .char (2 : Int32) [(.int 0), (.int 0)] (.int 0) := (Arv.new A1 (by decide)).pad (pad_rep [] (.int 0) 2)
    refine OEndsH.st (S' := T1.setTop (mkF m 24 #[vi t, vi c0, vi c1, vi ln, .unset] [(.int ((c0 &&& (255 : Int32)).toUInt32.toUInt16.toUInt32.toInt32)), (.int 0), (.ref b1), (.ref b1)])) (fun _ k => ?_) ?_
    · refine XS.dup X1.here hx rfl (hb hby d_3_16) rfl rfl ?_
      refine XS.iconst X1.here hx rfl (hb hby d_3_17) ?_
      refine XS.iloadN X1.here hx rfl (hb hby d_3_18) rfl ?_
      refine XS.sipush X1.here hx rfl (hb hby d_3_19) ?_
      show Steps p.tables e below (T1.setTop (mkF m 22 #[vi t, vi c0, vi c1, vi ln, .unset] [(.int 255), (.int c0), (.int 0), (.ref b1), (.ref b1)])) _
      refine XS.iand X1.here hx rfl (hb hby d_3_22) rfl ?_
      refine XS.i2c X1.here hx rfl (hb hby d_3_23) rfl ?_
      exact k
    generalize hg_x0 : ((c0 &&& (255 : Int32)).toUInt32.toUInt16.toUInt32.toInt32) = x0
    have hx0 : ¬ x0 < 0 ∧ ¬ (255 : Int32) < x0 := hg_x0 ▸ i2c255
    obtain ⟨cl_b1_2, Ar_b1_2, q_b1_2, S_b1_2, N_b1_2, H_b1_2, G_b1_2⟩ := V_b1
    obtain ⟨T2, h2, X2, e2, W2, st2⟩ := stC X1 hx hZ e1 Ar_b1_2 (j := (0 : Int32)) (inb_of S_b1_2 ⟨by decide, by decide⟩) (g := (mkF m 24 #[vi t, vi c0, vi c1, vi ln, .unset] [(.int x0), (.int 0), (.ref b1), (.ref b1)])) rfl rfl (hb hby d_3_24)
    have V_b1_2 : Arv Z h2 b1 k1 .char (2 : Int32) [(.int (nar .char x0)), (.int 0)] (.int 0) := Arv.set Ar_b1_2 q_b1_2 S_b1_2 N_b1_2 H_b1_2 G_b1_2 (fits_nar_char _) W2 0 rfl (Nat.le_of_ble_eq_true rfl)
    refine OEndsH.st st2 ?_
    have S_b1' : Safe Z EL vm0 h2 b1 := Safe.wr W2 S_b1 A0.1 S_b1
    have A' : CHr Z EL s.vm s.heap vm0 h2 := A0.trans (CHr.wr W2 S_b1 A0.1)
    replace S_b1 := S_b1'
    replace A0 := A'
    replace hk0 := Nat.le_trans hk0 (Keep.of_wr W2).1
    replace O0 : Ext Z.heap h2 := ext_wr O0 W2 ge_b1
    replace N0 := Fr.snoc X2 N0 ge_b1
    replace K0 : Keep h0 h2 [] := K0.wr W2 (Or.inr sz_b1)
    refine OEndsH.st (S' := T2.setTop (mkF m 33 #[vi t, vi c0, vi c1, vi ln, .unset] [(.int ((c1 &&& (255 : Int32)).toUInt32.toUInt16.toUInt32.toInt32)), (.int 1), (.ref b1), (.ref b1)])) (fun _ k => ?_) ?_
    · refine XS.dup X2.here hx rfl (hb hby d_3_25) rfl rfl ?_
      refine XS.iconst X2.here hx rfl (hb hby d_3_26) ?_
      refine XS.iloadN X2.here hx rfl (hb hby d_3_27) rfl ?_
      refine XS.sipush X2.here hx rfl (hb hby d_3_28) ?_
      show Steps p.tables e below (T2.setTop (mkF m 31 #[vi t, vi c0, vi c1, vi ln, .unset] [(.int 255), (.int c1), (.int 1), (.ref b1), (.ref b1)])) _
      refine XS.iand X2.here hx rfl (hb hby d_3_31) rfl ?_
      refine XS.i2c X2.here hx rfl (hb hby d_3_32) rfl ?_
      exact k
    generalize hg_x1 : ((c1 &&& (255 : Int32)).toUInt32.toUInt16.toUInt32.toInt32) = x1
    have hx1 : ¬ x1 < 0 ∧ ¬ (255 : Int32) < x1 := hg_x1 ▸ i2c255
    obtain ⟨cl_b1_3, Ar_b1_3, q_b1_3, S_b1_3, N_b1_3, H_b1_3, G_b1_3⟩ := V_b1_2
    obtain ⟨T3, h3, X3, e3, W3, st3⟩ := stC X2 hx hZ e2 Ar_b1_3 (j := (1 : Int32)) (inb_of S_b1_3 ⟨by decide, by decide⟩) (g := (mkF m 33 #[vi t, vi c0, vi c1, vi ln, .unset] [(.int x1), (.int 1), (.ref b1), (.ref b1)])) rfl rfl (hb hby d_3_33)
    have V_b1_3 : Arv Z h3 b1 k1 .char (2 : Int32) [(.int (nar .char x0)), (.int (nar .char x1))] (.int 0) := Arv.set Ar_b1_3 q_b1_3 S_b1_3 N_b1_3 H_b1_3 G_b1_3 (fits_nar_char _) W3 1 rfl (Nat.le_of_ble_eq_true rfl)
    refine OEndsH.st st3 ?_
    have S_b1' : Safe Z EL vm0 h3 b1 := Safe.wr W3 S_b1 A0.1 S_b1
    have A' : CHr Z EL s.vm s.heap vm0 h3 := A0.trans (CHr.wr W3 S_b1 A0.1)
    replace S_b1 := S_b1'
    replace A0 := A'
    replace hk0 := Nat.le_trans hk0 (Keep.of_wr W3).1
    replace O0 : Ext Z.heap h3 := ext_wr O0 W3 ge_b1
    replace N0 := Fr.snoc X3 N0 ge_b1
    replace K0 : Keep h0 h3 [] := K0.wr W3 (Or.inr sz_b1)
    refine OEndsH.st (S' := T3.setTop (mkF m 37 #[vi t, vi c0, vi c1, vi ln, vr b1] [(.int ln)])) (fun _ k => ?_) ?_
    · refine XS.astore X3.here hx rfl (hb hby d_3_34) rfl rfl (l' := #[vi t, vi c0, vi c1, vi ln, vr b1]) rfl ?_
      refine XS.iloadN X3.here hx rfl (hb hby d_3_36) rfl ?_
      exact k
    rcases Classical.em (ln = (0 : Int32)) with hl0 | hl0
    · refine OEndsH.st (S' := T3.setTop (mkF m 40 #[vi t, vi c0, vi c1, vi ln, vr b1] [])) (fun _ k => ?_) ?_
      · refine XS.ifNo X3.here hx rfl (hb hby d_3_37) rfl ((if0 _ _).trans (teq hl0).2) ?_
        exact k
      obtain ⟨T4, h4, X4, e4, E4, A4, D4, U4, st4⟩ := newO X3 hx hZ hown (wq hw 11 rfl) (wq hw 12 rfl) (wq hw 13 rfl) e3 (g := (mkF m 40 #[vi t, vi c0, vi c1, vi ln, vr b1] [])) rfl (hb hby d_3_40) (by decide) (by decide)
      obtain ⟨b4, g4⟩ : ∃ z, z = h3.size := ⟨_, rfl⟩
      rw [← g4] at A4 D4 U4 st4
      refine OEndsH.st st4 ?_
      have ne_b1_b4 : b1 ≠ b4 := Nat.ne_of_lt (Nat.lt_of_lt_of_le V_b1_3.lt (Nat.le_of_eq g4.symm))
      have ge_b4 : Z.heap.size ≤ b4 := Nat.le_trans O0.1 (Nat.le_of_eq g4.symm)
      have sz_b4 : h0.size ≤ b4 := Nat.le_trans K0.1 (Nat.le_of_eq g4.symm)
      have S_b4 : Safe Z EL vm0 h3 b4 := Safe.new (Nat.le_of_eq g4.symm)
      replace V_b1_3 := V_b1_3.ext E4
      have S_b1' : Safe Z EL vm0 h4 b1 := Safe.ext E4 A0.1 S_b1
      have S_b4' : Safe Z EL vm0 h4 b4 := Safe.ext E4 A0.1 S_b4
      have A' : CHr Z EL s.vm s.heap vm0 h4 := A0.trans (CHr.ext E4 A0.1)
      replace S_b1 := S_b1'
      replace S_b4 := S_b4'
      replace A0 := A'
      replace hk0 := Nat.le_trans hk0 E4.1
      replace O0 : Ext Z.heap h4 := ext_trans O0 E4
      replace K0 : Keep h0 h4 [] := K0.ext E4
      have F_value_b4 : Fld Z h4 b4 "java/lang/String" "value" "[B" .null := D4 (Or.inr (wq hw 26 rfl)) (ty := (.array .byte)) (by decide)
      have F_coder_b4 : Fld Z h4 b4 "java/lang/String" "coder" "B" (.int 0) := D4 (Or.inr (wq hw 27 rfl)) (ty := .byte) (by decide)
      refine OEndsH.st (S' := T4.setTop (mkF m 45 #[vi t, vi c0, vi c1, vi ln, vr b1] [(.int 0), (.ref b4), (.ref b4)])) (fun _ k => ?_) ?_
      · refine XS.dup X4.here hx rfl (hb hby d_3_43) rfl rfl ?_
        refine XS.iconst X4.here hx rfl (hb hby d_3_44) ?_
        exact k
      obtain ⟨T5, h5, k5, X5, e5, E5, A5, st5⟩ := newP X4 hx hZ (wq hw 10 rfl) e4 (g := (mkF m 45 #[vi t, vi c0, vi c1, vi ln, vr b1] [(.int 0), (.ref b4), (.ref b4)])) rfl (hb hby d_3_45) rfl (by decide) (cap := 0) (by decide) (by decide) (by decide) (by decide)
      obtain ⟨b5, g5⟩ : ∃ z, z = h4.size := ⟨_, rfl⟩
      rw [← g5] at A5 st5
      refine OEndsH.st st5 ?_
      have ne_b1_b5 : b1 ≠ b5 := Nat.ne_of_lt (Nat.lt_of_lt_of_le V_b1_3.lt (Nat.le_of_eq g5.symm))
      have ne_b4_b5 : b4 ≠ b5 := Nat.ne_of_lt (Nat.lt_of_lt_of_le A4.lt (Nat.le_of_eq g5.symm))
      have ge_b5 : Z.heap.size ≤ b5 := Nat.le_trans O0.1 (Nat.le_of_eq g5.symm)
      have sz_b5 : h0.size ≤ b5 := Nat.le_trans K0.1 (Nat.le_of_eq g5.symm)
      have S_b5 : Safe Z EL vm0 h4 b5 := Safe.new (Nat.le_of_eq g5.symm)
      replace V_b1_3 := V_b1_3.ext E5
      replace A4 := A4.ext E5
      replace F_value_b4 := F_value_b4.ext E5
      replace F_coder_b4 := F_coder_b4.ext E5
      have S_b1' : Safe Z EL vm0 h5 b1 := Safe.ext E5 A0.1 S_b1
      have S_b4' : Safe Z EL vm0 h5 b4 := Safe.ext E5 A0.1 S_b4
      have S_b5' : Safe Z EL vm0 h5 b5 := Safe.ext E5 A0.1 S_b5
      have A' : CHr Z EL s.vm s.heap vm0 h5 := A0.trans (CHr.ext E5 A0.1)
      replace S_b1 := S_b1'
      replace S_b4 := S_b4'
      replace S_b5 := S_b5'
      replace A0 := A'
      replace hk0 := Nat.le_trans hk0 E5.1
      replace O0 : Ext Z.heap h5 := ext_trans O0 E5
      replace K0 : Keep h0 h5 [] := K0.ext E5
      have V_b5 : Arv Z h5 b5 k5 .char (0 : Int32) [] (.int 0) := Arv.new A5 (by decide)
      obtain ⟨_, T6, h6, L6, vm6, k16, X6, e6, hQ6, hS6, hk6, hZ6, hown6, Aq6, st6⟩ := specH X5 hx hZ rfl hown (wq hw 14 rfl) (wq hw 15 rfl) (wq hw 16 rfl) (by decide) (kc := 4) (ks := 8) (ConH.sb (W := 1) (rm_strE1 l hD b4 b5 k5 O0 A4 F_value_b4 F_coder_b4 ge_b4 V_b5) hZ (wq hw 16 rfl) (wq hw 13 rfl) (by decide) (by decide) hEL A0.1 (allS ⟨A4.lt, S_b4⟩ all0)) e5 hS0 hk0 (a := b4) (g := (mkF m 47 #[vi t, vi c0, vi c1, vi ln, vr b1] [(.ref b5), (.ref b4), (.ref b4)])) rfl (by rw [hml]; rfl) (argsL := [(.ref b5)]) (rest := [(.ref b4)]) (lenOf pd_4 rfl) rfl (by show 2 * 0 + _ ≤ _; exact Nat.le_of_eq rfl) (hb hby d_3_47) (by decide) (by decide)
      obtain ⟨rfl, Nq6, Kq6⟩ := hQ6
      replace S_b1 : Safe Z EL vm6 h6 b1 := Aq6.safe V_b1_3.lt S_b1
      replace S_b4 : Safe Z EL vm6 h6 b4 := Aq6.safe A4.lt S_b4
      replace S_b5 : Safe Z EL vm6 h6 b5 := Aq6.safe V_b5.lt S_b5
      replace A0 : CHr Z EL s.vm s.heap vm6 h6 := A0.trans Aq6
      refine OEndsH.st st6 ?_
      replace N0 := Fr.app N0 Nq6
      replace V_b1_3 := V_b1_3.keep Kq6 (ninS ne_b1_b4 nin0)
      replace A4 := A4.keep Kq6
      replace V_b5 := V_b5.keep Kq6 (ninS (Ne.symm ne_b4_b5) nin0)
      replace O0 : Ext Z.heap h6 := ext_keep O0 Kq6 (allS ge_b4 all0)
      replace K0 : Keep h0 h6 [] := K0.trans Kq6 (allS (Or.inr sz_b4) all0)
      exact OEndsH.ret X6 hx hZ6 hEL e6 hS6 hk6 A0 hret hlk rfl (Or.inr (Or.inr (Or.inr (Or.inr ⟨rfl, rfl, rfl⟩)))) (hb hby d_3_50) (by decide) (by decide) ⟨b4, rfl, N0, K0⟩
    · refine OEndsH.st (S' := T3.setTop (mkF m 53 #[vi t, vi c0, vi c1, vi ln, vr b1] [(.int 1), (.int ln)])) (fun _ k => ?_) ?_
      · refine XS.ifYes X3.here hx rfl (pc0 := 37) (pc' := 51) rfl (hb hby d_3_37) rfl ((if0 _ _).trans (feq hl0).2) (by decide) (by decide) ?_
        refine XS.iloadN X3.here hx rfl (hb hby d_3_51) rfl ?_
        refine XS.iconst X3.here hx rfl (hb hby d_3_52) ?_
        exact k
      rcases Classical.em (ln = (1 : Int32)) with hl1 | hl1
      · refine OEndsH.st (S' := T3.setTop (mkF m 59 #[vi t, vi c0, vi c1, vi ln, vr b1] [(.int 0), (.ref b1)])) (fun _ k => ?_) ?_
        · refine XS.icmpNo X3.here hx rfl (hb hby d_3_53) rfl (teq hl1).2 ?_
          refine XS.aload X3.here hx rfl (hb hby d_3_56) rfl rfl ?_
          refine XS.iconst X3.here hx rfl (hb hby d_3_58) ?_
          exact k
        simp only [nar_char hx0, nar_char hx1] at V_b1_3
        obtain ⟨cl_b1_4, Ar_b1_4, q_b1_4, S_b1_4, N_b1_4, H_b1_4, G_b1_4⟩ := id V_b1_3
        refine OEndsH.st (S' := T3.setTop (mkF m 60 #[vi t, vi c0, vi c1, vi ln, vr b1] [(.int x0)])) (X3.caload hx (j := (0 : Int32)) (v := (.int x0)) (by rw [e3]; exact Ar_b1_4.1) (State.isArrayOf_alike hZ.alike Ar_b1_4.2.1) Ar_b1_4.2.2 (inb_of S_b1_4 ⟨by decide, by decide⟩) (H_b1_4.at (inb_of S_b1_4 ⟨by decide, by decide⟩) rfl) (g := (mkF m 59 #[vi t, vi c0, vi c1, vi ln, vr b1] [(.int 0), (.ref b1)])) rfl rfl (hb hby d_3_59)) ?_
        obtain ⟨_, T5, h5, L5, X5, e5, hQ5, st5⟩ := callC X3 hx hZ hown (wq hw 145 rfl) (wq hw 146 rfl) (wq hw 13 rfl) (wq hw 147 rfl) (by decide) (kc := 2) (ks := 5) (Con.sb (W := 0) (rm_valueOfC l hD x0 O0 hx0.2) hZ (wq hw 147 rfl) (wq hw 13 rfl) (by decide) (by decide)) e3 (g := (mkF m 60 #[vi t, vi c0, vi c1, vi ln, vr b1] [(.int x0)])) rfl (by rw [hml]; rfl) (argsL := [(.int x0)]) (rest := []) (lenOf pd_5 rfl) rfl (by show 2 * 0 + _ ≤ _; exact Nat.le_of_eq rfl) (hb hby d_3_60) (by decide) (by decide)
        obtain ⟨r5, t5, k5, rfl, Nq5, Kq5, szr5, szt5, nrt5, Eq5, Fc5, Fv5, V5⟩ := hQ5
        refine OEndsH.st st5 ?_
        replace N0 := Fr.app N0 Nq5
        have ne_b1_r5 : b1 ≠ r5 := Nat.ne_of_lt (Nat.lt_of_lt_of_le V_b1_3.lt szr5)
        have ge_r5 : Z.heap.size ≤ r5 := Nat.le_trans O0.1 szr5
        have S_r5 : Safe Z EL vm0 h3 r5 := Safe.new szr5
        have sz_r5 : h0.size ≤ r5 := Nat.le_trans K0.1 szr5
        have ne_b1_t5 : b1 ≠ t5 := Nat.ne_of_lt (Nat.lt_of_lt_of_le V_b1_3.lt szt5)
        have ge_t5 : Z.heap.size ≤ t5 := Nat.le_trans O0.1 szt5
        have S_t5 : Safe Z EL vm0 h3 t5 := Safe.new szt5
        have sz_t5 : h0.size ≤ t5 := Nat.le_trans K0.1 szt5
        replace V_b1_3 := V_b1_3.keep Kq5 nin0
        have S_b1' : Safe Z EL vm0 h5 b1 := Safe.keep Kq5 sf0 A0.1 S_b1
        have S_r5' : Safe Z EL vm0 h5 r5 := Safe.keep Kq5 sf0 A0.1 S_r5
        have S_t5' : Safe Z EL vm0 h5 t5 := Safe.keep Kq5 sf0 A0.1 S_t5
        have A' : CHr Z EL s.vm s.heap vm0 h5 := A0.trans (CHr.keep Kq5 sf0 A0.1)
        replace S_b1 := S_b1'
        replace S_r5 := S_r5'
        replace S_t5 := S_t5'
        replace A0 := A'
        replace hk0 := Nat.le_trans hk0 Kq5.1
        replace O0 : Ext Z.heap h5 := ext_keep O0 Kq5 all0
        replace K0 : Keep h0 h5 [] := K0.trans Kq5 all0
        replace V5 : Arv Z h5 t5 k5 .byte (Int32.ofNat 1) [.int x0.toInt8.toInt32] (.int 0) := V5
        exact OEndsH.ret X5 hx hZ hEL e5 hS0 hk0 A0 hret hlk rfl (Or.inr (Or.inr (Or.inr (Or.inr ⟨rfl, rfl, rfl⟩)))) (hb hby d_3_63) (by decide) (by decide) ⟨r5, rfl, N0, K0⟩
      · refine OEndsH.st (S' := T3.setTop (mkF m 64 #[vi t, vi c0, vi c1, vi ln, vr b1] [])) (fun _ k => ?_) ?_
        · refine XS.icmpYes X3.here hx rfl (pc0 := 53) (pc' := 64) rfl (hb hby d_3_53) rfl (feq hl1).2 (by decide) (by decide) ?_
          exact k
        obtain ⟨T4, h4, X4, e4, E4, A4, D4, U4, st4⟩ := newO X3 hx hZ hown (wq hw 11 rfl) (wq hw 12 rfl) (wq hw 13 rfl) e3 (g := (mkF m 64 #[vi t, vi c0, vi c1, vi ln, vr b1] [])) rfl (hb hby d_3_64) (by decide) (by decide)
        obtain ⟨b4, g4⟩ : ∃ z, z = h3.size := ⟨_, rfl⟩
        rw [← g4] at A4 D4 U4 st4
        refine OEndsH.st st4 ?_
        have ne_b1_b4 : b1 ≠ b4 := Nat.ne_of_lt (Nat.lt_of_lt_of_le V_b1_3.lt (Nat.le_of_eq g4.symm))
        have ge_b4 : Z.heap.size ≤ b4 := Nat.le_trans O0.1 (Nat.le_of_eq g4.symm)
        have sz_b4 : h0.size ≤ b4 := Nat.le_trans K0.1 (Nat.le_of_eq g4.symm)
        have S_b4 : Safe Z EL vm0 h3 b4 := Safe.new (Nat.le_of_eq g4.symm)
        replace V_b1_3 := V_b1_3.ext E4
        have S_b1' : Safe Z EL vm0 h4 b1 := Safe.ext E4 A0.1 S_b1
        have S_b4' : Safe Z EL vm0 h4 b4 := Safe.ext E4 A0.1 S_b4
        have A' : CHr Z EL s.vm s.heap vm0 h4 := A0.trans (CHr.ext E4 A0.1)
        replace S_b1 := S_b1'
        replace S_b4 := S_b4'
        replace A0 := A'
        replace hk0 := Nat.le_trans hk0 E4.1
        replace O0 : Ext Z.heap h4 := ext_trans O0 E4
        replace K0 : Keep h0 h4 [] := K0.ext E4
        have F_value_b4 : Fld Z h4 b4 "java/lang/String" "value" "[B" .null := D4 (Or.inr (wq hw 26 rfl)) (ty := (.array .byte)) (by decide)
        have F_coder_b4 : Fld Z h4 b4 "java/lang/String" "coder" "B" (.int 0) := D4 (Or.inr (wq hw 27 rfl)) (ty := .byte) (by decide)
        refine OEndsH.st (S' := T4.setTop (mkF m 70 #[vi t, vi c0, vi c1, vi ln, vr b1] [(.ref b1), (.ref b4), (.ref b4)])) (fun _ k => ?_) ?_
        · refine XS.dup X4.here hx rfl (hb hby d_3_67) rfl rfl ?_
          refine XS.aload X4.here hx rfl (hb hby d_3_68) rfl rfl ?_
          exact k
        simp only [nar_char (x := x0) hx0, nar_char (x := x1) hx1] at V_b1_3
        have hp5 : ∀ c ∈ ([x0, x1] : List Int32), ¬ c < 0 ∧ ¬ (255 : Int32) < c := by
          intro c hc; simp only [List.mem_cons, List.not_mem_nil, or_false] at hc
          rcases hc with rfl | rfl
          · exact hx0
          · exact hx1
        obtain ⟨_, T6, h6, L6, X6, e6, hQ6, st6⟩ := specC X4 hx hZ rfl hown (wq hw 14 rfl) (wq hw 15 rfl) (wq hw 16 rfl) (by decide) (kc := 1) (ks := 2) (SB.of (Q := StrChars.Road.QV Z b4 (2 : Int32) (([x0, x1] : List Int32).map (fun c => c.toInt8.toInt32)) h4 Z.heap.size) (StrChars.Road.backV (W := 1) hZ hws (kI := 4) (wq hw 12 rfl) (cs := ([x0, x1] : List Int32)) (bs := (([x0, x1] : List Int32).map (fun c => c.toInt8.toInt32))) (n := 2) ge_b4 O0.1 A4 F_value_b4 F_coder_b4 V_b1_3 (S_CS.ext O0) hcz rfl rfl (by decide) (by decide) hp5 rfl (by decide) (by decide))) e4 (a := b4) (g := (mkF m 70 #[vi t, vi c0, vi c1, vi ln, vr b1] [(.ref b1), (.ref b4), (.ref b4)])) rfl (by rw [hml]; rfl) (argsL := [(.ref b1)]) (rest := [(.ref b4)]) (lenOf pd_4 rfl) rfl (by show 2 * 0 + _ ≤ _; exact Nat.le_of_eq rfl) (hb hby d_3_70) (by decide) (by decide)
        obtain ⟨rfl, Nq6, Kq6, Eq6, Fc6, t6, kb6, gq6, szq6, nq6, Fv6, V6⟩ := hQ6
        refine OEndsH.st st6 ?_
        replace N0 := Fr.app N0 Nq6
        have ne_b1_t6 : b1 ≠ t6 := Nat.ne_of_lt (Nat.lt_of_lt_of_le V_b1_3.lt szq6)
        have ne_b4_t6 : b4 ≠ t6 := Nat.ne_of_lt (Nat.lt_of_lt_of_le A4.lt szq6)
        have ge_t6 : Z.heap.size ≤ t6 := Nat.le_trans O0.1 szq6
        have S_t6 : Safe Z EL vm0 h4 t6 := Safe.new szq6
        have sz_t6 : h0.size ≤ t6 := Nat.le_trans K0.1 szq6
        replace V_b1_3 := V_b1_3.keep Kq6 (ninS ne_b1_b4 nin0)
        replace A4 := A4.keep Kq6
        have S_b1' : Safe Z EL vm0 h6 b1 := Safe.keep Kq6 (sfS S_b4 sf0) A0.1 S_b1
        have S_b4' : Safe Z EL vm0 h6 b4 := Safe.keep Kq6 (sfS S_b4 sf0) A0.1 S_b4
        have S_t6' : Safe Z EL vm0 h6 t6 := Safe.keep Kq6 (sfS S_b4 sf0) A0.1 S_t6
        have A' : CHr Z EL s.vm s.heap vm0 h6 := A0.trans (CHr.keep Kq6 (sfS S_b4 sf0) A0.1)
        replace S_b1 := S_b1'
        replace S_b4 := S_b4'
        replace S_t6 := S_t6'
        replace A0 := A'
        replace hk0 := Nat.le_trans hk0 Kq6.1
        replace O0 : Ext Z.heap h6 := ext_keep O0 Kq6 (allS ge_b4 all0)
        replace K0 : Keep h0 h6 [] := K0.trans Kq6 (allS (Or.inr sz_b4) all0)
        replace V6 : Arv Z h6 t6 kb6 .byte (Int32.ofNat 2) [(.int (x0).toInt8.toInt32), (.int (x1).toInt8.toInt32)] (.int 0) := V6
        clear V_b1_3
        exact OEndsH.ret X6 hx hZ hEL e6 hS0 hk0 A0 hret hlk rfl (Or.inr (Or.inr (Or.inr (Or.inr ⟨rfl, rfl, rfl⟩)))) (hb hby d_3_73) (by decide) (by decide) ⟨b4, rfl, N0, K0⟩
theorem fill_in : ∀ d ∈ fillW "com/example/driftkey/driftkey/request/RequestException", d ∈ tables_1 := by decide +kernel
-- java/lang/Throwable.<init>:(Ljava/lang/String;)V
def Q_thInit (Z : State) (a : Addr) (wy : Addr) (h0 : Heap) (v : Option Value) (h : Heap) (L : List Loc) : Prop := v = none ∧ Fr Z.heap.size L ∧ Keep h0 h [a]
theorem ef_thInit (m : MethodId) (a : Addr) (wy : Addr) : entryFrame m #[(.ref a), (.ref wy)] 2 = mkF m 0 #[vr a, vr wy] [] := by first | (simp [entryFrame, mkF, argsToLocals, Value.category, vi, vj, vr]; done) | rfl
theorem pn_3 : plainName "java/lang/Throwable" = true := by first | (simp [plainName, overriddenIn]; done) | decide +kernel
theorem d_jdk_78_2_0 : decode jdk_78_method_2_code 0 = .ok (.aload_n 0, 1) := by decide +kernel
theorem d_jdk_78_2_1 : decode jdk_78_method_2_code 1 = .ok (.invokespecial 1, 3) := by decide +kernel
theorem d_jdk_78_2_4 : decode jdk_78_method_2_code 4 = .ok (.aload_n 0, 1) := by decide +kernel
theorem d_jdk_78_2_5 : decode jdk_78_method_2_code 5 = .ok (.aload_n 0, 1) := by decide +kernel
theorem d_jdk_78_2_6 : decode jdk_78_method_2_code 6 = .ok (.putfield 7, 3) := by decide +kernel
theorem d_jdk_78_2_9 : decode jdk_78_method_2_code 9 = .ok (.aload_n 0, 1) := by decide +kernel
theorem d_jdk_78_2_10 : decode jdk_78_method_2_code 10 = .ok (.getstatic 13, 3) := by decide +kernel
theorem d_jdk_78_2_13 : decode jdk_78_method_2_code 13 = .ok (.putfield 17, 3) := by decide +kernel
theorem d_jdk_78_2_16 : decode jdk_78_method_2_code 16 = .ok (.aload_n 0, 1) := by decide +kernel
theorem d_jdk_78_2_17 : decode jdk_78_method_2_code 17 = .ok (.getstatic 20, 3) := by decide +kernel
theorem d_jdk_78_2_20 : decode jdk_78_method_2_code 20 = .ok (.putfield 24, 3) := by decide +kernel
theorem d_jdk_78_2_23 : decode jdk_78_method_2_code 23 = .ok (.aload_n 0, 1) := by decide +kernel
theorem d_jdk_78_2_24 : decode jdk_78_method_2_code 24 = .ok (.invokevirtual 27, 3) := by decide +kernel
theorem d_jdk_78_2_27 : decode jdk_78_method_2_code 27 = .ok (.pop, 1) := by decide +kernel
theorem d_jdk_78_2_28 : decode jdk_78_method_2_code 28 = .ok (.aload_n 0, 1) := by decide +kernel
theorem d_jdk_78_2_29 : decode jdk_78_method_2_code 29 = .ok (.aload_n 1, 1) := by decide +kernel
theorem d_jdk_78_2_30 : decode jdk_78_method_2_code 30 = .ok (.putfield 31, 3) := by decide +kernel
theorem d_jdk_78_2_33 : decode jdk_78_method_2_code 33 = .ok (.return_, 1) := by decide +kernel
set_option maxRecDepth 65536 in
set_option maxHeartbeats 40000000 in
theorem rm_thInit (l : Launch) {Z : State} {a0 : Array Value} (hD : Wd Z a0) (a : Addr) (wy : Addr) {h0 : Heap} (O0 : Ext Z.heap h0) (hl : l.stackTraces = true) (E_a : Exa Z h0 a "com/example/driftkey/driftkey/request/RequestException") (U_a : Unt h0 a) (F_cause_a : Fld Z h0 a "java/lang/Throwable" "cause" "Ljava/lang/Throwable;" .null) (F_stackTrace_a : Fld Z h0 a "java/lang/Throwable" "stackTrace" "[Ljava/lang/StackTraceElement;" .null) (F_suppressedExceptions_a : Fld Z h0 a "java/lang/Throwable" "suppressedExceptions" "Ljava/util/List;" .null) (F_backtrace_a : Fld Z h0 a "java/lang/Throwable" "backtrace" "Ljava/lang/Object;" .null) (F_detailMessage_a : Fld Z h0 a "java/lang/Throwable" "detailMessage" "Ljava/lang/String;" .null) (ge_a : Z.heap.size ≤ a) :
    ConK l Z (⟨"java/lang/Throwable", "<init>", "(Ljava/lang/String;)V"⟩ : MethodName) jdk_78_method_2_code 2 none [] ({ frames := 3, cells := 1, slots := 2752, locals := 42 } : Room) #[(.ref a), (.ref wy)] h0 (Q_thInit Z a wy h0) := by
  refine ConK.walk (plainFor_of_name pn_3) ?_
  intro p e s m below meth c T0 X0 hx hZ hby hml hown hnm hret hlk e0 hTK hBelow hsh
  obtain ⟨hw, ⟨cz, S_CS, hcz⟩, ⟨k0, k1, k2, k3, kr, S_K0, S_K1, S_K2, S_K3, S_KR⟩, ⟨ust, sen, ⟨S_US, hus⟩, ⟨S_SE, hsen⟩⟩⟩ := id hD
  have N0 := Fr.nil Z.heap.size
  have K0 : Keep h0 h0 [a] := Keep.refl _ _
  have E_a0 := E_a
  have O00 := O0
  refine OEnds.cast (ef_thInit m a wy) ?_
  have fw : ∀ d ∈ fillW "com/example/driftkey/driftkey/request/RequestException", d.before a0 Z = true := fun d hd => hw d (fill_in d hd)
  have B0 : Ba a [] := Ba.nil
  refine OEnds.st (S' := T0.setTop (mkF m 1 #[vr a, vr wy] [(.ref a)])) (fun _ k => ?_) ?_
  · refine XS.aloadN X0.here hx rfl (hb hby d_jdk_78_2_0) rfl rfl ?_
    exact k
  obtain ⟨T1, X1, e1, st1⟩ := initO X0 hx hZ hown (wq hw 49 rfl) (wq hw 22 rfl) (wq hw 23 rfl) e0 (g := (mkF m 1 #[vr a, vr wy] [(.ref a)])) rfl (by rw [hml]; rfl) rfl (hb hby d_jdk_78_2_1) (by decide) (W := 0) (by show 2 * 0 + _ ≤ _; exact Nat.le_of_eq rfl) (by decide)
  refine OEnds.st st1 ?_
  refine OEnds.st (S' := T1.setTop (mkF m 6 #[vr a, vr wy] [(.ref a), (.ref a)])) (fun _ k => ?_) ?_
  · refine XS.aloadN X1.here hx rfl (hb hby d_jdk_78_2_4) rfl rfl ?_
    refine XS.aloadN X1.here hx rfl (hb hby d_jdk_78_2_5) rfl rfl ?_
    exact k
  obtain ⟨T2, h2, X2, e2, W2, st2⟩ := putF X1 hx hZ hown (host := "") (Or.inl (wq hw 50 rfl)) Via.refl e1 F_cause_a E_a (Or.inl (wq hw 51 rfl)) (wq hw 33 rfl) (ty := (.object "java/lang/Throwable")) (by decide) rfl rfl (g := (mkF m 6 #[vr a, vr wy] [(.ref a), (.ref a)])) rfl rfl (hb hby d_jdk_78_2_6)
  refine OEnds.st st2 ?_
  replace E_a := E_a.wr W2
  replace F_cause_a := F_cause_a.same W2
  replace F_stackTrace_a := F_stackTrace_a.other W2 (Or.inr (slot_ne (Or.inl (wq hw 54 rfl)) (Or.inl (wq hw 51 rfl)) (by decide) (t := (.array (.object "java/lang/StackTraceElement"))) (t' := (.object "java/lang/Throwable")) (by decide) (by decide)))
  replace F_suppressedExceptions_a := F_suppressedExceptions_a.other W2 (Or.inr (slot_ne (Or.inl (wq hw 57 rfl)) (Or.inl (wq hw 51 rfl)) (by decide) (t := (.object "java/util/List")) (t' := (.object "java/lang/Throwable")) (by decide) (by decide)))
  replace F_backtrace_a := F_backtrace_a.other W2 (Or.inr (slot_ne (Or.inl (wq hw 82 rfl)) (Or.inl (wq hw 51 rfl)) (by decide) (t := (.object "java/lang/Object")) (t' := (.object "java/lang/Throwable")) (by decide) (by decide)))
  replace F_detailMessage_a := F_detailMessage_a.other W2 (Or.inr (slot_ne (Or.inl (wq hw 81 rfl)) (Or.inl (wq hw 51 rfl)) (by decide) (t := (.object "java/lang/String")) (t' := (.object "java/lang/Throwable")) (by decide) (by decide)))
  replace O0 : Ext Z.heap h2 := ext_wr O0 W2 ge_a
  replace N0 := Fr.snoc X2 N0 ge_a
  replace B0 := Ba.snoc X2 B0
  replace U_a := unt_wr W2 U_a
  replace K0 : Keep h0 h2 [a] := K0.wr W2 (Or.inl (List.mem_of_getElem? (i := 0) rfl))
  refine OEnds.st (S' := T2.setTop (mkF m 10 #[vr a, vr wy] [(.ref a)])) (fun _ k => ?_) ?_
  · refine XS.aloadN X2.here hx rfl (hb hby d_jdk_78_2_9) rfl rfl ?_
    exact k
  obtain ⟨T3, X3, e3, st3⟩ := getS2 X2 hx hZ hown (host := "") (Or.inl (wq hw 52 rfl)) Via.refl e2 (S_US.ext O0) (g := (mkF m 10 #[vr a, vr wy] [(.ref a)])) rfl (hb hby d_jdk_78_2_10)
  refine OEnds.st st3 ?_
  obtain ⟨T4, h4, X4, e4, W4, st4⟩ := putF X3 hx hZ hown (host := "") (Or.inl (wq hw 53 rfl)) Via.refl e3 F_stackTrace_a E_a (Or.inl (wq hw 54 rfl)) (wq hw 33 rfl) (ty := (.array (.object "java/lang/StackTraceElement"))) (by decide) (Jvm.RoadKit.narrow_isRef (by rfl)) (fits_isRef (by rfl) hus) (g := (mkF m 13 #[vr a, vr wy] [ust, (.ref a)])) rfl rfl (hb hby d_jdk_78_2_13)
  refine OEnds.st st4 ?_
  replace E_a := E_a.wr W4
  replace F_cause_a := F_cause_a.other W4 (Or.inr (slot_ne (Or.inl (wq hw 51 rfl)) (Or.inl (wq hw 54 rfl)) (by decide) (t := (.object "java/lang/Throwable")) (t' := (.array (.object "java/lang/StackTraceElement"))) (by decide) (by decide)))
  replace F_stackTrace_a := F_stackTrace_a.same W4
  replace F_suppressedExceptions_a := F_suppressedExceptions_a.other W4 (Or.inr (slot_ne (Or.inl (wq hw 57 rfl)) (Or.inl (wq hw 54 rfl)) (by decide) (t := (.object "java/util/List")) (t' := (.array (.object "java/lang/StackTraceElement"))) (by decide) (by decide)))
  replace F_backtrace_a := F_backtrace_a.other W4 (Or.inr (slot_ne (Or.inl (wq hw 82 rfl)) (Or.inl (wq hw 54 rfl)) (by decide) (t := (.object "java/lang/Object")) (t' := (.array (.object "java/lang/StackTraceElement"))) (by decide) (by decide)))
  replace F_detailMessage_a := F_detailMessage_a.other W4 (Or.inr (slot_ne (Or.inl (wq hw 81 rfl)) (Or.inl (wq hw 54 rfl)) (by decide) (t := (.object "java/lang/String")) (t' := (.array (.object "java/lang/StackTraceElement"))) (by decide) (by decide)))
  replace O0 : Ext Z.heap h4 := ext_wr O0 W4 ge_a
  replace N0 := Fr.snoc X4 N0 ge_a
  replace B0 := Ba.snoc X4 B0
  replace U_a := unt_wr W4 U_a
  replace K0 : Keep h0 h4 [a] := K0.wr W4 (Or.inl (List.mem_of_getElem? (i := 0) rfl))
  refine OEnds.st (S' := T4.setTop (mkF m 17 #[vr a, vr wy] [(.ref a)])) (fun _ k => ?_) ?_
  · refine XS.aloadN X4.here hx rfl (hb hby d_jdk_78_2_16) rfl rfl ?_
    exact k
  obtain ⟨T5, X5, e5, st5⟩ := getS2 X4 hx hZ hown (host := "") (Or.inl (wq hw 55 rfl)) Via.refl e4 (S_SE.ext O0) (g := (mkF m 17 #[vr a, vr wy] [(.ref a)])) rfl (hb hby d_jdk_78_2_17)
  refine OEnds.st st5 ?_
  obtain ⟨T6, h6, X6, e6, W6, st6⟩ := putF X5 hx hZ hown (host := "") (Or.inl (wq hw 56 rfl)) Via.refl e5 F_suppressedExceptions_a E_a (Or.inl (wq hw 57 rfl)) (wq hw 33 rfl) (ty := (.object "java/util/List")) (by decide) (Jvm.RoadKit.narrow_isRef (by rfl)) (fits_isRef (by rfl) hsen) (g := (mkF m 20 #[vr a, vr wy] [sen, (.ref a)])) rfl rfl (hb hby d_jdk_78_2_20)
  refine OEnds.st st6 ?_
  replace E_a := E_a.wr W6
  replace F_cause_a := F_cause_a.other W6 (Or.inr (slot_ne (Or.inl (wq hw 51 rfl)) (Or.inl (wq hw 57 rfl)) (by decide) (t := (.object "java/lang/Throwable")) (t' := (.object "java/util/List")) (by decide) (by decide)))
  replace F_stackTrace_a := F_stackTrace_a.other W6 (Or.inr (slot_ne (Or.inl (wq hw 54 rfl)) (Or.inl (wq hw 57 rfl)) (by decide) (t := (.array (.object "java/lang/StackTraceElement"))) (t' := (.object "java/util/List")) (by decide) (by decide)))
  replace F_suppressedExceptions_a := F_suppressedExceptions_a.same W6
  replace F_backtrace_a := F_backtrace_a.other W6 (Or.inr (slot_ne (Or.inl (wq hw 82 rfl)) (Or.inl (wq hw 57 rfl)) (by decide) (t := (.object "java/lang/Object")) (t' := (.object "java/util/List")) (by decide) (by decide)))
  replace F_detailMessage_a := F_detailMessage_a.other W6 (Or.inr (slot_ne (Or.inl (wq hw 81 rfl)) (Or.inl (wq hw 57 rfl)) (by decide) (t := (.object "java/lang/String")) (t' := (.object "java/util/List")) (by decide) (by decide)))
  replace O0 : Ext Z.heap h6 := ext_wr O0 W6 ge_a
  replace N0 := Fr.snoc X6 N0 ge_a
  replace B0 := Ba.snoc X6 B0
  replace U_a := unt_wr W6 U_a
  replace K0 : Keep h0 h6 [a] := K0.wr W6 (Or.inl (List.mem_of_getElem? (i := 0) rfl))
  refine OEnds.st (S' := T6.setTop (mkF m 24 #[vr a, vr wy] [(.ref a)])) (fun _ k => ?_) ?_
  · refine XS.aloadN X6.here hx rfl (hb hby d_jdk_78_2_23) rfl rfl ?_
    exact k
  obtain ⟨T7, h7, L7, X7, e7, hb7, kn7, st7⟩ := fillC X6 hx hl hZ (rc := "com/example/driftkey/driftkey/request/RequestException") hown fw (wq hw 59 rfl) (wq hw 61 rfl) (wq hw 33 rfl) (hsh ▸ ThS.ext O00 ThS.start) hTK hBelow e6 E_a U_a F_backtrace_a hus F_stackTrace_a (S_US.ext O0) (g := (mkF m 24 #[vr a, vr wy] [(.ref a)])) rfl (by rw [hml]; rfl) rfl (hb hby d_jdk_78_2_24) (by decide) (W := 0) (by show 2 * 0 + _ ≤ _; exact Nat.le_of_eq rfl) (by decide) (by decide) (by decide)
  refine OEnds.st st7 ?_
  have K7 := keep_same X7 hsh (Ba.app B0 hb7) e7
  replace O0 : Ext Z.heap h7 := ext_keep O00 K7 (allS ge_a all0)
  replace N0 := Fr.app N0 (fun y q => by rw [hb7 y q]; exact ge_a)
  have E7 := E_a0.keep K7
  obtain ⟨v_F_detailMessage_a, F_detailMessage_a⟩ := fld_laid (O := "java/lang/Throwable") (n := "detailMessage") (d := "Ljava/lang/String;") E7 kn7 (wq hw 33 rfl) (Or.inl (wq hw 81 rfl))
  refine OEnds.st (S' := T7.setTop (mkF m 30 #[vr a, vr wy] [(.ref wy), (.ref a)])) (fun _ k => ?_) ?_
  · refine XS.pop X7.here hx rfl (hb hby d_jdk_78_2_27) rfl rfl ?_
    refine XS.aloadN X7.here hx rfl (hb hby d_jdk_78_2_28) rfl rfl ?_
    refine XS.aloadN X7.here hx rfl (hb hby d_jdk_78_2_29) rfl rfl ?_
    exact k
  obtain ⟨T8, h8, X8, e8, W8, st8⟩ := putF X7 hx hZ hown (host := "") (Or.inl (wq hw 85 rfl)) Via.refl e7 F_detailMessage_a E7 (Or.inl (wq hw 81 rfl)) (wq hw 33 rfl) (ty := (.object "java/lang/String")) (by decide) rfl rfl (g := (mkF m 30 #[vr a, vr wy] [(.ref wy), (.ref a)])) rfl rfl (hb hby d_jdk_78_2_30)
  refine OEnds.st st8 ?_
  replace E7 := E7.wr W8
  replace F_detailMessage_a := F_detailMessage_a.same W8
  replace O0 : Ext Z.heap h8 := ext_wr O0 W8 ge_a
  replace N0 := Fr.snoc X8 N0 ge_a
  replace K7 : Keep h0 h8 [a] := K7.wr W8 (Or.inl (List.mem_of_getElem? (i := 0) rfl))
  exact OEnds.retV X8 hx hret hlk (hb hby d_jdk_78_2_33) (by decide) (by decide) (by rw [e8]; exact ⟨rfl, N0, K7⟩)
-- java/lang/Exception.<init>:(Ljava/lang/String;)V
def Q_exInit (Z : State) (a : Addr) (wy : Addr) (h0 : Heap) (v : Option Value) (h : Heap) (L : List Loc) : Prop := v = none ∧ Fr Z.heap.size L ∧ Keep h0 h [a]
theorem ef_exInit (m : MethodId) (a : Addr) (wy : Addr) : entryFrame m #[(.ref a), (.ref wy)] 2 = mkF m 0 #[vr a, vr wy] [] := by first | (simp [entryFrame, mkF, argsToLocals, Value.category, vi, vj, vr]; done) | rfl
theorem pn_4 : plainName "java/lang/Exception" = true := by first | (simp [plainName, overriddenIn]; done) | decide +kernel
theorem d_jdk_59_2_0 : decode jdk_59_method_2_code 0 = .ok (.aload_n 0, 1) := by decide +kernel
theorem d_jdk_59_2_1 : decode jdk_59_method_2_code 1 = .ok (.aload_n 1, 1) := by decide +kernel
theorem d_jdk_59_2_2 : decode jdk_59_method_2_code 2 = .ok (.invokespecial 7, 3) := by decide +kernel
theorem pd_6 : parseMethodDescriptor "(Ljava/lang/String;)V" = some ⟨[(.object "java/lang/String")], none⟩ := by decide +kernel
theorem d_jdk_59_2_5 : decode jdk_59_method_2_code 5 = .ok (.return_, 1) := by decide +kernel
set_option maxRecDepth 65536 in
set_option maxHeartbeats 40000000 in
theorem rm_exInit (l : Launch) {Z : State} {a0 : Array Value} (hD : Wd Z a0) (a : Addr) (wy : Addr) {h0 : Heap} (O0 : Ext Z.heap h0) (hl : l.stackTraces = true) (E_a : Exa Z h0 a "com/example/driftkey/driftkey/request/RequestException") (U_a : Unt h0 a) (F_cause_a : Fld Z h0 a "java/lang/Throwable" "cause" "Ljava/lang/Throwable;" .null) (F_stackTrace_a : Fld Z h0 a "java/lang/Throwable" "stackTrace" "[Ljava/lang/StackTraceElement;" .null) (F_suppressedExceptions_a : Fld Z h0 a "java/lang/Throwable" "suppressedExceptions" "Ljava/util/List;" .null) (F_backtrace_a : Fld Z h0 a "java/lang/Throwable" "backtrace" "Ljava/lang/Object;" .null) (F_detailMessage_a : Fld Z h0 a "java/lang/Throwable" "detailMessage" "Ljava/lang/String;" .null) (ge_a : Z.heap.size ≤ a) :
    ConK l Z (⟨"java/lang/Exception", "<init>", "(Ljava/lang/String;)V"⟩ : MethodName) jdk_59_method_2_code 2 none [] ({ frames := 4, cells := 1, slots := 2752, locals := 55 } : Room) #[(.ref a), (.ref wy)] h0 (Q_exInit Z a wy h0) := by
  refine ConK.walk (plainFor_of_name pn_4) ?_
  intro p e s m below meth c T0 X0 hx hZ hby hml hown hnm hret hlk e0 hTK hBelow hsh
  obtain ⟨hw, ⟨cz, S_CS, hcz⟩, ⟨k0, k1, k2, k3, kr, S_K0, S_K1, S_K2, S_K3, S_KR⟩, ⟨ust, sen, ⟨S_US, hus⟩, ⟨S_SE, hsen⟩⟩⟩ := id hD
  have N0 := Fr.nil Z.heap.size
  have K0 : Keep h0 h0 [a] := Keep.refl _ _
  refine OEnds.cast (ef_exInit m a wy) ?_
  refine OEnds.st (S' := T0.setTop (mkF m 2 #[vr a, vr wy] [(.ref wy), (.ref a)])) (fun _ k => ?_) ?_
  · refine XS.aloadN X0.here hx rfl (hb hby d_jdk_59_2_0) rfl rfl ?_
    refine XS.aloadN X0.here hx rfl (hb hby d_jdk_59_2_1) rfl rfl ?_
    exact k
  obtain ⟨_, T1, h1, L1, X1, e1, hQ1, st1⟩ := specC X0 hx hZ rfl hown (wq hw 43 rfl) (wq hw 44 rfl) (wq hw 48 rfl) (by decide) (kc := 1) (ks := 2752) (ConK.sb (W := 0) (rm_thInit l hD a wy O0 hl E_a U_a F_cause_a F_stackTrace_a F_suppressedExceptions_a F_backtrace_a F_detailMessage_a ge_a) hZ (wq hw 48 rfl) (wq hw 47 rfl) (by decide) (by decide) hTK hBelow) e0 (a := a) (g := (mkF m 2 #[vr a, vr wy] [(.ref wy), (.ref a)])) rfl (by rw [hml]; rfl) (argsL := [(.ref wy)]) (rest := []) (lenOf pd_6 rfl) rfl (by show 2 * 0 + _ ≤ _; exact Nat.le_of_eq rfl) (hb hby d_jdk_59_2_2) (by decide) (by decide)
  obtain ⟨rfl, Nq1, Kq1⟩ := hQ1
  refine OEnds.st st1 ?_
  replace N0 := Fr.app N0 Nq1
  replace E_a := E_a.keep Kq1
  replace O0 : Ext Z.heap h1 := ext_keep O0 Kq1 (allS ge_a all0)
  replace K0 : Keep h0 h1 [a] := K0.trans Kq1 (allS (Or.inl (List.mem_of_getElem? (i := 0) rfl)) all0)
  exact OEnds.retV X1 hx hret hlk (hb hby d_jdk_59_2_5) (by decide) (by decide) (by rw [e1]; exact ⟨rfl, N0, K0⟩)
-- com/example/driftkey/driftkey/request/RequestException.<init>:(Lcom/example/driftkey/driftkey/request/ErrorType;Ljava/lang/String;)V
def Q_reInit (Z : State) (a : Addr) (et : Addr) (wy : Addr) (h0 : Heap) (v : Option Value) (h : Heap) (L : List Loc) : Prop := v = none ∧ Fr Z.heap.size L ∧ Keep h0 h [a]
theorem ef_reInit (m : MethodId) (a : Addr) (et : Addr) (wy : Addr) : entryFrame m #[(.ref a), (.ref et), (.ref wy)] 3 = mkF m 0 #[vr a, vr et, vr wy] [] := by first | (simp [entryFrame, mkF, argsToLocals, Value.category, vi, vj, vr]; done) | rfl
theorem pn_5 : plainName "com/example/driftkey/driftkey/request/RequestException" = true := by first | (simp [plainName, overriddenIn]; done) | decide +kernel
theorem d_prog_19_1_0 : decode prog_19_method_1_code 0 = .ok (.aload_n 0, 1) := by decide +kernel
theorem d_prog_19_1_1 : decode prog_19_method_1_code 1 = .ok (.aload_n 2, 1) := by decide +kernel
theorem d_prog_19_1_2 : decode prog_19_method_1_code 2 = .ok (.invokespecial 1, 3) := by decide +kernel
theorem d_prog_19_1_5 : decode prog_19_method_1_code 5 = .ok (.aload_n 0, 1) := by decide +kernel
theorem d_prog_19_1_6 : decode prog_19_method_1_code 6 = .ok (.aload_n 1, 1) := by decide +kernel
theorem d_prog_19_1_7 : decode prog_19_method_1_code 7 = .ok (.putfield 7, 3) := by decide +kernel
theorem d_prog_19_1_10 : decode prog_19_method_1_code 10 = .ok (.return_, 1) := by decide +kernel
set_option maxRecDepth 65536 in
set_option maxHeartbeats 40000000 in
theorem rm_reInit (l : Launch) {Z : State} {a0 : Array Value} (hD : Wd Z a0) (a : Addr) (et : Addr) (wy : Addr) {h0 : Heap} (O0 : Ext Z.heap h0) (hl : l.stackTraces = true) (E_a : Exa Z h0 a "com/example/driftkey/driftkey/request/RequestException") (U_a : Unt h0 a) (F_cause_a : Fld Z h0 a "java/lang/Throwable" "cause" "Ljava/lang/Throwable;" .null) (F_stackTrace_a : Fld Z h0 a "java/lang/Throwable" "stackTrace" "[Ljava/lang/StackTraceElement;" .null) (F_suppressedExceptions_a : Fld Z h0 a "java/lang/Throwable" "suppressedExceptions" "Ljava/util/List;" .null) (F_backtrace_a : Fld Z h0 a "java/lang/Throwable" "backtrace" "Ljava/lang/Object;" .null) (F_detailMessage_a : Fld Z h0 a "java/lang/Throwable" "detailMessage" "Ljava/lang/String;" .null) (ge_a : Z.heap.size ≤ a) :
    ConK l Z (⟨"com/example/driftkey/driftkey/request/RequestException", "<init>", "(Lcom/example/driftkey/driftkey/request/ErrorType;Ljava/lang/String;)V"⟩ : MethodName) prog_19_method_1_code 3 none [] ({ frames := 5, cells := 1, slots := 2752, locals := 68 } : Room) #[(.ref a), (.ref et), (.ref wy)] h0 (Q_reInit Z a et wy h0) := by
  refine ConK.walk (plainFor_of_name pn_5) ?_
  intro p e s m below meth c T0 X0 hx hZ hby hml hown hnm hret hlk e0 hTK hBelow hsh
  obtain ⟨hw, ⟨cz, S_CS, hcz⟩, ⟨k0, k1, k2, k3, kr, S_K0, S_K1, S_K2, S_K3, S_KR⟩, ⟨ust, sen, ⟨S_US, hus⟩, ⟨S_SE, hsen⟩⟩⟩ := id hD
  have N0 := Fr.nil Z.heap.size
  have K0 : Keep h0 h0 [a] := Keep.refl _ _
  refine OEnds.cast (ef_reInit m a et wy) ?_
  refine OEnds.st (S' := T0.setTop (mkF m 2 #[vr a, vr et, vr wy] [(.ref wy), (.ref a)])) (fun _ k => ?_) ?_
  · refine XS.aloadN X0.here hx rfl (hb hby d_prog_19_1_0) rfl rfl ?_
    refine XS.aloadN X0.here hx rfl (hb hby d_prog_19_1_1) rfl rfl ?_
    exact k
  obtain ⟨_, T1, h1, L1, X1, e1, hQ1, st1⟩ := specC X0 hx hZ rfl hown (wq hw 38 rfl) (wq hw 39 rfl) (wq hw 42 rfl) (by decide) (kc := 1) (ks := 2752) (ConK.sb (W := 0) (rm_exInit l hD a wy O0 hl E_a U_a F_cause_a F_stackTrace_a F_suppressedExceptions_a F_backtrace_a F_detailMessage_a ge_a) hZ (wq hw 42 rfl) (wq hw 41 rfl) (by decide) (by decide) hTK hBelow) e0 (a := a) (g := (mkF m 2 #[vr a, vr et, vr wy] [(.ref wy), (.ref a)])) rfl (by rw [hml]; rfl) (argsL := [(.ref wy)]) (rest := []) (lenOf pd_6 rfl) rfl (by show 2 * 0 + _ ≤ _; exact Nat.le_of_eq rfl) (hb hby d_prog_19_1_2) (by decide) (by decide)
  obtain ⟨rfl, Nq1, Kq1⟩ := hQ1
  refine OEnds.st st1 ?_
  replace N0 := Fr.app N0 Nq1
  replace E_a := E_a.keep Kq1
  replace O0 : Ext Z.heap h1 := ext_keep O0 Kq1 (allS ge_a all0)
  replace K0 : Keep h0 h1 [a] := K0.trans Kq1 (allS (Or.inl (List.mem_of_getElem? (i := 0) rfl)) all0)
  obtain ⟨v_F_type_a, F_type_a⟩ := fld_laid (O := "com/example/driftkey/driftkey/request/RequestException") (n := "type") (d := "Lcom/example/driftkey/driftkey/request/ErrorType;") E_a (kn_keep K0 U_a) (wq hw 33 rfl) (Or.inr (wq hw 87 rfl))
  refine OEnds.st (S' := T1.setTop (mkF m 7 #[vr a, vr et, vr wy] [(.ref et), (.ref a)])) (fun _ k => ?_) ?_
  · refine XS.aloadN X1.here hx rfl (hb hby d_prog_19_1_5) rfl rfl ?_
    refine XS.aloadN X1.here hx rfl (hb hby d_prog_19_1_6) rfl rfl ?_
    exact k
  obtain ⟨T2, h2, X2, e2, W2, st2⟩ := putF X1 hx hZ hown (host := "") (Or.inl (wq hw 86 rfl)) Via.refl e1 F_type_a E_a (Or.inr ⟨(wq hw 87 rfl), rfl, hnm⟩) (wq hw 33 rfl) (ty := (.object "com/example/driftkey/driftkey/request/ErrorType")) (by decide) rfl rfl (g := (mkF m 7 #[vr a, vr et, vr wy] [(.ref et), (.ref a)])) rfl rfl (hb hby d_prog_19_1_7)
  refine OEnds.st st2 ?_
  replace E_a := E_a.wr W2
  replace F_type_a := F_type_a.same W2
  replace O0 : Ext Z.heap h2 := ext_wr O0 W2 ge_a
  replace N0 := Fr.snoc X2 N0 ge_a
  replace K0 : Keep h0 h2 [a] := K0.wr W2 (Or.inl (List.mem_of_getElem? (i := 0) rfl))
  exact OEnds.retV X2 hx hret hlk (hb hby d_prog_19_1_10) (by decide) (by decide) (by rw [e2]; exact ⟨rfl, N0, K0⟩)
-- java/lang/Record.<init>:()V
def Q_recInit (Z : State) (a : Addr) (h0 : Heap) (v : Option Value) (h : Heap) (L : List Loc) : Prop := v = none ∧ Fr Z.heap.size L ∧ h = h0
theorem ef_recInit (m : MethodId) (a : Addr) : entryFrame m #[(.ref a)] 1 = mkF m 0 #[vr a] [] := by first | (simp [entryFrame, mkF, argsToLocals, Value.category, vi, vj, vr]; done) | rfl
theorem pn_6 : plainName "java/lang/Record" = true := by first | (simp [plainName, overriddenIn]; done) | decide +kernel
theorem d_jdk_30_1_0 : decode jdk_30_method_1_code 0 = .ok (.aload_n 0, 1) := by decide +kernel
theorem d_jdk_30_1_1 : decode jdk_30_method_1_code 1 = .ok (.invokespecial 1, 3) := by decide +kernel
theorem d_jdk_30_1_4 : decode jdk_30_method_1_code 4 = .ok (.return_, 1) := by decide +kernel
set_option maxRecDepth 65536 in
set_option maxHeartbeats 40000000 in
theorem rm_recInit (l : Launch) {Z : State} {a0 : Array Value} (hD : Wd Z a0) (a : Addr) {h0 : Heap} (O0 : Ext Z.heap h0) :
    Con l Z (⟨"java/lang/Record", "<init>", "()V"⟩ : MethodName) jdk_30_method_1_code 1 none [] ({ frames := 1, cells := 0, slots := 0, locals := 12 } : Room) #[(.ref a)] h0 (Q_recInit Z a h0) := by
  refine Con.walk (plainFor_of_name pn_6) ?_
  intro p e s m below meth c T0 X0 hx hZ hby hml hown hnm hret hlk e0
  obtain ⟨hw, ⟨cz, S_CS, hcz⟩, ⟨k0, k1, k2, k3, kr, S_K0, S_K1, S_K2, S_K3, S_KR⟩, ⟨ust, sen, ⟨S_US, hus⟩, ⟨S_SE, hsen⟩⟩⟩ := id hD
  have N0 := Fr.nil Z.heap.size
  refine OEnds.cast (ef_recInit m a) ?_
  refine OEnds.st (S' := T0.setTop (mkF m 1 #[vr a] [(.ref a)])) (fun _ k => ?_) ?_
  · refine XS.aloadN X0.here hx rfl (hb hby d_jdk_30_1_0) rfl rfl ?_
    exact k
  obtain ⟨T1, X1, e1, st1⟩ := initO X0 hx hZ hown (wq hw 105 rfl) (wq hw 22 rfl) (wq hw 23 rfl) e0 (g := (mkF m 1 #[vr a] [(.ref a)])) rfl (by rw [hml]; rfl) rfl (hb hby d_jdk_30_1_1) (by decide) (W := 0) (by show 2 * 0 + _ ≤ _; exact Nat.le_of_eq rfl) (by decide)
  refine OEnds.st st1 ?_
  exact OEnds.retV X1 hx hret hlk (hb hby d_jdk_30_1_4) (by decide) (by decide) (by rw [e1]; exact ⟨rfl, N0, rfl⟩)
-- com/example/driftkey/driftkey/storage/WriteResult.<init>:(Lcom/example/driftkey/driftkey/storage/WriteResult$Outcome;JLcom/example/driftkey/driftkey/request/RequestException;)V
def Q_wrInit (Z : State) (a : Addr) (oc : Addr) (vn : Int64) (ex : Addr) (h0 : Heap) (v : Option Value) (h : Heap) (L : List Loc) : Prop := v = none ∧ Fr Z.heap.size L ∧ Keep h0 h [a] ∧ Exa Z h a "com/example/driftkey/driftkey/storage/WriteResult" ∧ Fld Z h a "com/example/driftkey/driftkey/storage/WriteResult" "outcome" "Lcom/example/driftkey/driftkey/storage/WriteResult$Outcome;" (.ref oc) ∧ Fld Z h a "com/example/driftkey/driftkey/storage/WriteResult" "version" "J" (.long vn) ∧ Fld Z h a "com/example/driftkey/driftkey/storage/WriteResult" "refusal" "Lcom/example/driftkey/driftkey/request/RequestException;" (.ref ex)
theorem ef_wrInit (m : MethodId) (a : Addr) (oc : Addr) (vn : Int64) (ex : Addr) : entryFrame m #[(.ref a), (.ref oc), (.long vn), (.ref ex)] 5 = mkF m 0 #[vr a, vr oc, vj vn, .second, vr ex] [] := by first | (simp [entryFrame, mkF, argsToLocals, Value.category, vi, vj, vr]; done) | rfl
theorem pn_7 : plainName "com/example/driftkey/driftkey/storage/WriteResult" = true := by first | (simp [plainName, overriddenIn]; done) | decide +kernel
theorem d_prog_25_2_0 : decode prog_25_method_2_code 0 = .ok (.aload_n 0, 1) := by decide +kernel
theorem d_prog_25_2_1 : decode prog_25_method_2_code 1 = .ok (.invokespecial 1, 3) := by decide +kernel
theorem pd_7 : parseMethodDescriptor "()V" = some ⟨[], none⟩ := by decide +kernel
theorem d_prog_25_2_4 : decode prog_25_method_2_code 4 = .ok (.aload_n 0, 1) := by decide +kernel
theorem d_prog_25_2_5 : decode prog_25_method_2_code 5 = .ok (.aload_n 1, 1) := by decide +kernel
theorem d_prog_25_2_6 : decode prog_25_method_2_code 6 = .ok (.putfield 7, 3) := by decide +kernel
theorem d_prog_25_2_9 : decode prog_25_method_2_code 9 = .ok (.aload_n 0, 1) := by decide +kernel
theorem d_prog_25_2_10 : decode prog_25_method_2_code 10 = .ok (.lload_n 2, 1) := by decide +kernel
theorem d_prog_25_2_11 : decode prog_25_method_2_code 11 = .ok (.putfield 13, 3) := by decide +kernel
theorem d_prog_25_2_14 : decode prog_25_method_2_code 14 = .ok (.aload_n 0, 1) := by decide +kernel
theorem d_prog_25_2_15 : decode prog_25_method_2_code 15 = .ok (.aload 4, 2) := by decide +kernel
theorem d_prog_25_2_17 : decode prog_25_method_2_code 17 = .ok (.putfield 17, 3) := by decide +kernel
theorem d_prog_25_2_20 : decode prog_25_method_2_code 20 = .ok (.return_, 1) := by decide +kernel
set_option maxRecDepth 65536 in
set_option maxHeartbeats 40000000 in
theorem rm_wrInit (l : Launch) {Z : State} {a0 : Array Value} (hD : Wd Z a0) (a : Addr) (oc : Addr) (vn : Int64) (ex : Addr) {h0 : Heap} (O0 : Ext Z.heap h0) (E_a : Exa Z h0 a "com/example/driftkey/driftkey/storage/WriteResult") (F_outcome_a : Fld Z h0 a "com/example/driftkey/driftkey/storage/WriteResult" "outcome" "Lcom/example/driftkey/driftkey/storage/WriteResult$Outcome;" .null) (F_version_a : Fld Z h0 a "com/example/driftkey/driftkey/storage/WriteResult" "version" "J" (.long 0)) (F_refusal_a : Fld Z h0 a "com/example/driftkey/driftkey/storage/WriteResult" "refusal" "Lcom/example/driftkey/driftkey/request/RequestException;" .null) (ge_a : Z.heap.size ≤ a) :
    Con l Z (⟨"com/example/driftkey/driftkey/storage/WriteResult", "<init>", "(Lcom/example/driftkey/driftkey/storage/WriteResult$Outcome;JLcom/example/driftkey/driftkey/request/RequestException;)V"⟩ : MethodName) prog_25_method_2_code 5 none [] ({ frames := 2, cells := 0, slots := 0, locals := 24 } : Room) #[(.ref a), (.ref oc), (.long vn), (.ref ex)] h0 (Q_wrInit Z a oc vn ex h0) := by
  refine Con.walk (plainFor_of_name pn_7) ?_
  intro p e s m below meth c T0 X0 hx hZ hby hml hown hnm hret hlk e0
  obtain ⟨hw, ⟨cz, S_CS, hcz⟩, ⟨k0, k1, k2, k3, kr, S_K0, S_K1, S_K2, S_K3, S_KR⟩, ⟨ust, sen, ⟨S_US, hus⟩, ⟨S_SE, hsen⟩⟩⟩ := id hD
  have N0 := Fr.nil Z.heap.size
  have K0 : Keep h0 h0 [a] := Keep.refl _ _
  refine OEnds.cast (ef_wrInit m a oc vn ex) ?_
  refine OEnds.st (S' := T0.setTop (mkF m 1 #[vr a, vr oc, vj vn, .second, vr ex] [(.ref a)])) (fun _ k => ?_) ?_
  · refine XS.aloadN X0.here hx rfl (hb hby d_prog_25_2_0) rfl rfl ?_
    exact k
  obtain ⟨_, T1, h1, L1, X1, e1, hQ1, st1⟩ := specC X0 hx hZ rfl hown (wq hw 100 rfl) (wq hw 101 rfl) (wq hw 104 rfl) (by decide) (kc := 0) (ks := 0) (Con.sb (W := 0) (rm_recInit l hD a O0) hZ (wq hw 104 rfl) (wq hw 103 rfl) (by decide) (by decide)) e0 (a := a) (g := (mkF m 1 #[vr a, vr oc, vj vn, .second, vr ex] [(.ref a)])) rfl (by rw [hml]; rfl) (argsL := []) (rest := []) (lenOf pd_7 rfl) rfl (by show 2 * 0 + _ ≤ _; exact Nat.le_of_eq rfl) (hb hby d_prog_25_2_1) (by decide) (by decide)
  obtain ⟨rfl, Nq1, Hq1⟩ := hQ1
  refine OEnds.st st1 ?_
  replace N0 := Fr.app N0 Nq1
  replace e1 := e1.trans Hq1
  refine OEnds.st (S' := T1.setTop (mkF m 6 #[vr a, vr oc, vj vn, .second, vr ex] [(.ref oc), (.ref a)])) (fun _ k => ?_) ?_
  · refine XS.aloadN X1.here hx rfl (hb hby d_prog_25_2_4) rfl rfl ?_
    refine XS.aloadN X1.here hx rfl (hb hby d_prog_25_2_5) rfl rfl ?_
    exact k
  obtain ⟨T2, h2, X2, e2, W2, st2⟩ := putF X1 hx hZ hown (host := "") (Or.inl (wq hw 106 rfl)) Via.refl e1 F_outcome_a E_a (Or.inr ⟨(wq hw 107 rfl), rfl, hnm⟩) (wq hw 93 rfl) (ty := (.object "com/example/driftkey/driftkey/storage/WriteResult$Outcome")) (by decide) rfl rfl (g := (mkF m 6 #[vr a, vr oc, vj vn, .second, vr ex] [(.ref oc), (.ref a)])) rfl rfl (hb hby d_prog_25_2_6)
  refine OEnds.st st2 ?_
  replace E_a := E_a.wr W2
  replace F_outcome_a := F_outcome_a.same W2
  replace F_version_a := F_version_a.other W2 (Or.inr (slot_ne (Or.inr (wq hw 109 rfl)) (Or.inr (wq hw 107 rfl)) (by decide) (t := .long) (t' := (.object "com/example/driftkey/driftkey/storage/WriteResult$Outcome")) (by decide) (by decide)))
  replace F_refusal_a := F_refusal_a.other W2 (Or.inr (slot_ne (Or.inr (wq hw 111 rfl)) (Or.inr (wq hw 107 rfl)) (by decide) (t := (.object "com/example/driftkey/driftkey/request/RequestException")) (t' := (.object "com/example/driftkey/driftkey/storage/WriteResult$Outcome")) (by decide) (by decide)))
  replace O0 : Ext Z.heap h2 := ext_wr O0 W2 ge_a
  replace N0 := Fr.snoc X2 N0 ge_a
  replace K0 : Keep h0 h2 [a] := K0.wr W2 (Or.inl (List.mem_of_getElem? (i := 0) rfl))
  refine OEnds.st (S' := T2.setTop (mkF m 11 #[vr a, vr oc, vj vn, .second, vr ex] [(.long vn), (.ref a)])) (fun _ k => ?_) ?_
  · refine XS.aloadN X2.here hx rfl (hb hby d_prog_25_2_9) rfl rfl ?_
    refine XS.lloadN X2.here hx rfl (hb hby d_prog_25_2_10) rfl ?_
    exact k
  obtain ⟨T3, h3, X3, e3, W3, st3⟩ := putF X2 hx hZ hown (host := "") (Or.inl (wq hw 108 rfl)) Via.refl e2 F_version_a E_a (Or.inr ⟨(wq hw 109 rfl), rfl, hnm⟩) (wq hw 93 rfl) (ty := .long) (by decide) rfl rfl (g := (mkF m 11 #[vr a, vr oc, vj vn, .second, vr ex] [(.long vn), (.ref a)])) rfl rfl (hb hby d_prog_25_2_11)
  refine OEnds.st st3 ?_
  replace E_a := E_a.wr W3
  replace F_outcome_a := F_outcome_a.other W3 (Or.inr (slot_ne (Or.inr (wq hw 107 rfl)) (Or.inr (wq hw 109 rfl)) (by decide) (t := (.object "com/example/driftkey/driftkey/storage/WriteResult$Outcome")) (t' := .long) (by decide) (by decide)))
  replace F_version_a := F_version_a.same W3
  replace F_refusal_a := F_refusal_a.other W3 (Or.inr (slot_ne (Or.inr (wq hw 111 rfl)) (Or.inr (wq hw 109 rfl)) (by decide) (t := (.object "com/example/driftkey/driftkey/request/RequestException")) (t' := .long) (by decide) (by decide)))
  replace O0 : Ext Z.heap h3 := ext_wr O0 W3 ge_a
  replace N0 := Fr.snoc X3 N0 ge_a
  replace K0 : Keep h0 h3 [a] := K0.wr W3 (Or.inl (List.mem_of_getElem? (i := 0) rfl))
  refine OEnds.st (S' := T3.setTop (mkF m 17 #[vr a, vr oc, vj vn, .second, vr ex] [(.ref ex), (.ref a)])) (fun _ k => ?_) ?_
  · refine XS.aloadN X3.here hx rfl (hb hby d_prog_25_2_14) rfl rfl ?_
    refine XS.aload X3.here hx rfl (hb hby d_prog_25_2_15) rfl rfl ?_
    exact k
  obtain ⟨T4, h4, X4, e4, W4, st4⟩ := putF X3 hx hZ hown (host := "") (Or.inl (wq hw 110 rfl)) Via.refl e3 F_refusal_a E_a (Or.inr ⟨(wq hw 111 rfl), rfl, hnm⟩) (wq hw 93 rfl) (ty := (.object "com/example/driftkey/driftkey/request/RequestException")) (by decide) rfl rfl (g := (mkF m 17 #[vr a, vr oc, vj vn, .second, vr ex] [(.ref ex), (.ref a)])) rfl rfl (hb hby d_prog_25_2_17)
  refine OEnds.st st4 ?_
  replace E_a := E_a.wr W4
  replace F_outcome_a := F_outcome_a.other W4 (Or.inr (slot_ne (Or.inr (wq hw 107 rfl)) (Or.inr (wq hw 111 rfl)) (by decide) (t := (.object "com/example/driftkey/driftkey/storage/WriteResult$Outcome")) (t' := (.object "com/example/driftkey/driftkey/request/RequestException")) (by decide) (by decide)))
  replace F_version_a := F_version_a.other W4 (Or.inr (slot_ne (Or.inr (wq hw 109 rfl)) (Or.inr (wq hw 111 rfl)) (by decide) (t := .long) (t' := (.object "com/example/driftkey/driftkey/request/RequestException")) (by decide) (by decide)))
  replace F_refusal_a := F_refusal_a.same W4
  replace O0 : Ext Z.heap h4 := ext_wr O0 W4 ge_a
  replace N0 := Fr.snoc X4 N0 ge_a
  replace K0 : Keep h0 h4 [a] := K0.wr W4 (Or.inl (List.mem_of_getElem? (i := 0) rfl))
  exact OEnds.retV X4 hx hret hlk (hb hby d_prog_25_2_20) (by decide) (by decide) (by rw [e4]; exact ⟨rfl, N0, K0, E_a, F_outcome_a, F_version_a, F_refusal_a⟩)
-- com/example/driftkey/driftkey/storage/WriteResult.refused:(Lcom/example/driftkey/driftkey/request/RequestException;)Lcom/example/driftkey/driftkey/storage/WriteResult;
def Q_refused (Z : State) (ex : Addr) (kx : Addr) (h0 : Heap) (v : Option Value) (h : Heap) (L : List Loc) : Prop := ∃ a : Addr, v = some (.ref a) ∧ Fr Z.heap.size L ∧ Keep h0 h [] ∧ h0.size ≤ a ∧ Exa Z h a "com/example/driftkey/driftkey/storage/WriteResult" ∧ Fld Z h a "com/example/driftkey/driftkey/storage/WriteResult" "outcome" "Lcom/example/driftkey/driftkey/storage/WriteResult$Outcome;" (.ref kx) ∧ Fld Z h a "com/example/driftkey/driftkey/storage/WriteResult" "version" "J" (.long 0) ∧ Fld Z h a "com/example/driftkey/driftkey/storage/WriteResult" "refusal" "Lcom/example/driftkey/driftkey/request/RequestException;" (.ref ex)
theorem ef_refused (m : MethodId) (ex : Addr) : entryFrame m #[(.ref ex)] 1 = mkF m 0 #[vr ex] [] := by first | (simp [entryFrame, mkF, argsToLocals, Value.category, vi, vj, vr]; done) | rfl
theorem d_prog_25_3_0 : decode prog_25_method_3_code 0 = .ok (.new 8, 3) := by decide +kernel
theorem d_prog_25_3_3 : decode prog_25_method_3_code 3 = .ok (.dup, 1) := by decide +kernel
theorem d_prog_25_3_4 : decode prog_25_method_3_code 4 = .ok (.getstatic 24, 3) := by decide +kernel
theorem d_prog_25_3_7 : decode prog_25_method_3_code 7 = .ok (.lconst 0, 1) := by decide +kernel
theorem d_prog_25_3_8 : decode prog_25_method_3_code 8 = .ok (.aload_n 0, 1) := by decide +kernel
theorem d_prog_25_3_9 : decode prog_25_method_3_code 9 = .ok (.invokespecial 21, 3) := by decide +kernel
theorem pd_8 : parseMethodDescriptor "(Lcom/example/driftkey/driftkey/storage/WriteResult$Outcome;JLcom/example/driftkey/driftkey/request/RequestException;)V" = some ⟨[(.object "com/example/driftkey/driftkey/storage/WriteResult$Outcome"), .long, (.object "com/example/driftkey/driftkey/request/RequestException")], none⟩ := by decide +kernel
theorem d_prog_25_3_12 : decode prog_25_method_3_code 12 = .ok (.areturn, 1) := by decide +kernel
set_option maxRecDepth 65536 in
set_option maxHeartbeats 40000000 in
theorem rm_refused (l : Launch) {Z : State} {a0 : Array Value} (hD : Wd Z a0) (ex : Addr) (kx : Addr) {h0 : Heap} (O0 : Ext Z.heap h0) (SX : Sta Z Z.heap "com/example/driftkey/driftkey/storage/WriteResult$Outcome" "REFUSED" "Lcom/example/driftkey/driftkey/storage/WriteResult$Outcome;" (.ref kx)) :
    Con l Z (⟨"com/example/driftkey/driftkey/storage/WriteResult", "refused", "(Lcom/example/driftkey/driftkey/request/RequestException;)Lcom/example/driftkey/driftkey/storage/WriteResult;"⟩ : MethodName) prog_25_method_3_code 1 (some (.object "com/example/driftkey/driftkey/storage/WriteResult")) [] ({ frames := 3, cells := 1, slots := 3, locals := 41 } : Room) #[(.ref ex)] h0 (Q_refused Z ex kx h0) := by
  refine Con.walk (plainFor_of_name pn_7) ?_
  intro p e s m below meth c T0 X0 hx hZ hby hml hown hnm hret hlk e0
  obtain ⟨hw, ⟨cz, S_CS, hcz⟩, ⟨k0, k1, k2, k3, kr, S_K0, S_K1, S_K2, S_K3, S_KR⟩, ⟨ust, sen, ⟨S_US, hus⟩, ⟨S_SE, hsen⟩⟩⟩ := id hD
  have N0 := Fr.nil Z.heap.size
  have K0 : Keep h0 h0 [] := Keep.refl _ _
  refine OEnds.cast (ef_refused m ex) ?_
  obtain ⟨T1, h1, X1, e1, E1, A1, D1, U1, st1⟩ := newO X0 hx hZ hown (wq hw 92 rfl) (wq hw 93 rfl) (wq hw 90 rfl) e0 (g := (mkF m 0 #[vr ex] [])) rfl (hb hby d_prog_25_3_0) (by decide) (by decide)
  obtain ⟨b1, g1⟩ : ∃ z, z = h0.size := ⟨_, rfl⟩
  rw [← g1] at A1 D1 U1 st1
  refine OEnds.st st1 ?_
  have ge_b1 : Z.heap.size ≤ b1 := Nat.le_trans O0.1 (Nat.le_of_eq g1.symm)
  have sz_b1 : h0.size ≤ b1 := Nat.le_trans K0.1 (Nat.le_of_eq g1.symm)
  replace O0 : Ext Z.heap h1 := ext_trans O0 E1
  replace K0 : Keep h0 h1 [] := K0.ext E1
  have F_outcome_b1 : Fld Z h1 b1 "com/example/driftkey/driftkey/storage/WriteResult" "outcome" "Lcom/example/driftkey/driftkey/storage/WriteResult$Outcome;" .null := D1 (Or.inr (wq hw 107 rfl)) (ty := (.object "com/example/driftkey/driftkey/storage/WriteResult$Outcome")) (by decide)
  have F_version_b1 : Fld Z h1 b1 "com/example/driftkey/driftkey/storage/WriteResult" "version" "J" (.long 0) := D1 (Or.inr (wq hw 109 rfl)) (ty := .long) (by decide)
  have F_refusal_b1 : Fld Z h1 b1 "com/example/driftkey/driftkey/storage/WriteResult" "refusal" "Lcom/example/driftkey/driftkey/request/RequestException;" .null := D1 (Or.inr (wq hw 111 rfl)) (ty := (.object "com/example/driftkey/driftkey/request/RequestException")) (by decide)
  refine OEnds.st (S' := T1.setTop (mkF m 4 #[vr ex] [(.ref b1), (.ref b1)])) (fun _ k => ?_) ?_
  · refine XS.dup X1.here hx rfl (hb hby d_prog_25_3_3) rfl rfl ?_
    exact k
  obtain ⟨T2, X2, e2, st2⟩ := getS2 X1 hx hZ hown (host := "") (Or.inl (wq hw 94 rfl)) Via.refl e1 (SX.ext O0) (g := (mkF m 4 #[vr ex] [(.ref b1), (.ref b1)])) rfl (hb hby d_prog_25_3_4)
  refine OEnds.st st2 ?_
  refine OEnds.st (S' := T2.setTop (mkF m 9 #[vr ex] [(.ref ex), (.long 0), (.ref kx), (.ref b1), (.ref b1)])) (fun _ k => ?_) ?_
  · refine XS.lconst X2.here hx rfl (hb hby d_prog_25_3_7) ?_
    refine XS.aloadN X2.here hx rfl (hb hby d_prog_25_3_8) rfl rfl ?_
    exact k
  obtain ⟨_, T3, h3, L3, X3, e3, hQ3, st3⟩ := specC X2 hx hZ rfl hown (wq hw 97 rfl) (wq hw 98 rfl) (wq hw 99 rfl) (by decide) (kc := 0) (ks := 0) (Con.sb (W := 1) (rm_wrInit l hD b1 kx (0 : Int64) ex O0 A1 F_outcome_b1 F_version_b1 F_refusal_b1 ge_b1) hZ (wq hw 99 rfl) (wq hw 90 rfl) (by decide) (by decide)) e2 (a := b1) (g := (mkF m 9 #[vr ex] [(.ref ex), (.long 0), (.ref kx), (.ref b1), (.ref b1)])) rfl (by rw [hml]; rfl) (argsL := [(.ref kx), (.long 0), (.ref ex)]) (rest := [(.ref b1)]) (lenOf pd_8 rfl) rfl (by show 2 * 0 + _ ≤ _; exact Nat.le_of_eq rfl) (hb hby d_prog_25_3_9) (by decide) (by decide)
  obtain ⟨rfl, Nq3, Kq3, Eq3, Fo3, Fv3, Fr3⟩ := hQ3
  refine OEnds.st st3 ?_
  replace N0 := Fr.app N0 Nq3
  replace A1 := A1.keep Kq3
  replace O0 : Ext Z.heap h3 := ext_keep O0 Kq3 (allS ge_b1 all0)
  replace K0 : Keep h0 h3 [] := K0.trans Kq3 (allS (Or.inr sz_b1) all0)
  exact OEnds.ret X3 hx hret hlk rfl (Or.inr (Or.inr (Or.inr (Or.inr ⟨rfl, rfl, rfl⟩)))) (hb hby d_prog_25_3_12) (by decide) (by decide) (by rw [e3]; exact ⟨b1, rfl, N0, K0, sz_b1, A1, Fo3, Fv3, Fr3⟩)
-- com/example/driftkey/driftkey/storage/WriteResult.outcome:()Lcom/example/driftkey/driftkey/storage/WriteResult$Outcome;
def Q_get_outcome (Z : State) (a : Addr) (x : Addr) (h0 : Heap) (v : Option Value) (h : Heap) (L : List Loc) : Prop := v = some (.ref x) ∧ Fr Z.heap.size L ∧ h = h0
theorem ef_get_outcome (m : MethodId) (a : Addr) : entryFrame m #[(.ref a)] 1 = mkF m 0 #[vr a] [] := by first | (simp [entryFrame, mkF, argsToLocals, Value.category, vi, vj, vr]; done) | rfl
theorem d_prog_25_7_0 : decode prog_25_method_7_code 0 = .ok (.aload_n 0, 1) := by decide +kernel
theorem d_prog_25_7_1 : decode prog_25_method_7_code 1 = .ok (.getfield 7, 3) := by decide +kernel
theorem d_prog_25_7_4 : decode prog_25_method_7_code 4 = .ok (.areturn, 1) := by decide +kernel
set_option maxRecDepth 65536 in
set_option maxHeartbeats 40000000 in
theorem rm_get_outcome (l : Launch) {Z : State} {a0 : Array Value} (hD : Wd Z a0) (a : Addr) (x : Addr) {h0 : Heap} (O0 : Ext Z.heap h0) (F_outcome_a : Fld Z h0 a "com/example/driftkey/driftkey/storage/WriteResult" "outcome" "Lcom/example/driftkey/driftkey/storage/WriteResult$Outcome;" (.ref x)) :
    Con l Z (⟨"com/example/driftkey/driftkey/storage/WriteResult", "outcome", "()Lcom/example/driftkey/driftkey/storage/WriteResult$Outcome;"⟩ : MethodName) prog_25_method_7_code 1 (some (.object "com/example/driftkey/driftkey/storage/WriteResult$Outcome")) [] ({ frames := 0, cells := 0, slots := 0, locals := 0 } : Room) #[(.ref a)] h0 (Q_get_outcome Z a x h0) := by
  refine Con.walk (plainFor_of_name pn_7) ?_
  intro p e s m below meth c T0 X0 hx hZ hby hml hown hnm hret hlk e0
  obtain ⟨hw, ⟨cz, S_CS, hcz⟩, ⟨k0, k1, k2, k3, kr, S_K0, S_K1, S_K2, S_K3, S_KR⟩, ⟨ust, sen, ⟨S_US, hus⟩, ⟨S_SE, hsen⟩⟩⟩ := id hD
  have N0 := Fr.nil Z.heap.size
  refine OEnds.cast (ef_get_outcome m a) ?_
  refine OEnds.st (S' := T0.setTop (mkF m 1 #[vr a] [(.ref a)])) (fun _ k => ?_) ?_
  · refine XS.aloadN X0.here hx rfl (hb hby d_prog_25_7_0) rfl rfl ?_
    exact k
  obtain ⟨T1, X1, e1, st1⟩ := getF X0 hx hZ hown (host := "") (Or.inl (wq hw 106 rfl)) Via.refl e0 F_outcome_a (g := (mkF m 1 #[vr a] [(.ref a)])) rfl rfl (hb hby d_prog_25_7_1)
  refine OEnds.st st1 ?_
  exact OEnds.ret X1 hx hret hlk rfl (Or.inr (Or.inr (Or.inr (Or.inr ⟨rfl, rfl, rfl⟩)))) (hb hby d_prog_25_7_4) (by decide) (by decide) (by rw [e1]; exact ⟨rfl, N0, rfl⟩)
-- com/example/driftkey/driftkey/storage/WriteResult.version:()J
def Q_get_version (Z : State) (a : Addr) (x : Int64) (h0 : Heap) (v : Option Value) (h : Heap) (L : List Loc) : Prop := v = some (.long x) ∧ Fr Z.heap.size L ∧ h = h0
theorem ef_get_version (m : MethodId) (a : Addr) : entryFrame m #[(.ref a)] 1 = mkF m 0 #[vr a] [] := by first | (simp [entryFrame, mkF, argsToLocals, Value.category, vi, vj, vr]; done) | rfl
theorem d_prog_25_8_0 : decode prog_25_method_8_code 0 = .ok (.aload_n 0, 1) := by decide +kernel
theorem d_prog_25_8_1 : decode prog_25_method_8_code 1 = .ok (.getfield 13, 3) := by decide +kernel
theorem d_prog_25_8_4 : decode prog_25_method_8_code 4 = .ok (.lreturn, 1) := by decide +kernel
set_option maxRecDepth 65536 in
set_option maxHeartbeats 40000000 in
theorem rm_get_version (l : Launch) {Z : State} {a0 : Array Value} (hD : Wd Z a0) (a : Addr) (x : Int64) {h0 : Heap} (O0 : Ext Z.heap h0) (F_version_a : Fld Z h0 a "com/example/driftkey/driftkey/storage/WriteResult" "version" "J" (.long x)) :
    Con l Z (⟨"com/example/driftkey/driftkey/storage/WriteResult", "version", "()J"⟩ : MethodName) prog_25_method_8_code 1 (some .long) [] ({ frames := 0, cells := 0, slots := 0, locals := 0 } : Room) #[(.ref a)] h0 (Q_get_version Z a x h0) := by
  refine Con.walk (plainFor_of_name pn_7) ?_
  intro p e s m below meth c T0 X0 hx hZ hby hml hown hnm hret hlk e0
  obtain ⟨hw, ⟨cz, S_CS, hcz⟩, ⟨k0, k1, k2, k3, kr, S_K0, S_K1, S_K2, S_K3, S_KR⟩, ⟨ust, sen, ⟨S_US, hus⟩, ⟨S_SE, hsen⟩⟩⟩ := id hD
  have N0 := Fr.nil Z.heap.size
  refine OEnds.cast (ef_get_version m a) ?_
  refine OEnds.st (S' := T0.setTop (mkF m 1 #[vr a] [(.ref a)])) (fun _ k => ?_) ?_
  · refine XS.aloadN X0.here hx rfl (hb hby d_prog_25_8_0) rfl rfl ?_
    exact k
  obtain ⟨T1, X1, e1, st1⟩ := getF X0 hx hZ hown (host := "") (Or.inl (wq hw 108 rfl)) Via.refl e0 F_version_a (g := (mkF m 1 #[vr a] [(.ref a)])) rfl rfl (hb hby d_prog_25_8_1)
  refine OEnds.st st1 ?_
  exact OEnds.ret X1 hx hret hlk rfl (Or.inr (Or.inl ⟨rfl, rfl, _, rfl⟩)) (hb hby d_prog_25_8_4) (by decide) (by decide) (by rw [e1]; exact ⟨rfl, N0, rfl⟩)
-- com/example/driftkey/driftkey/storage/WriteResult.refusal:()Lcom/example/driftkey/driftkey/request/RequestException;
def Q_get_refusal (Z : State) (a : Addr) (x : Addr) (h0 : Heap) (v : Option Value) (h : Heap) (L : List Loc) : Prop := v = some (.ref x) ∧ Fr Z.heap.size L ∧ h = h0
theorem ef_get_refusal (m : MethodId) (a : Addr) : entryFrame m #[(.ref a)] 1 = mkF m 0 #[vr a] [] := by first | (simp [entryFrame, mkF, argsToLocals, Value.category, vi, vj, vr]; done) | rfl
theorem d_prog_25_9_0 : decode prog_25_method_9_code 0 = .ok (.aload_n 0, 1) := by decide +kernel
theorem d_prog_25_9_1 : decode prog_25_method_9_code 1 = .ok (.getfield 17, 3) := by decide +kernel
theorem d_prog_25_9_4 : decode prog_25_method_9_code 4 = .ok (.areturn, 1) := by decide +kernel
set_option maxRecDepth 65536 in
set_option maxHeartbeats 40000000 in
theorem rm_get_refusal (l : Launch) {Z : State} {a0 : Array Value} (hD : Wd Z a0) (a : Addr) (x : Addr) {h0 : Heap} (O0 : Ext Z.heap h0) (F_refusal_a : Fld Z h0 a "com/example/driftkey/driftkey/storage/WriteResult" "refusal" "Lcom/example/driftkey/driftkey/request/RequestException;" (.ref x)) :
    Con l Z (⟨"com/example/driftkey/driftkey/storage/WriteResult", "refusal", "()Lcom/example/driftkey/driftkey/request/RequestException;"⟩ : MethodName) prog_25_method_9_code 1 (some (.object "com/example/driftkey/driftkey/request/RequestException")) [] ({ frames := 0, cells := 0, slots := 0, locals := 0 } : Room) #[(.ref a)] h0 (Q_get_refusal Z a x h0) := by
  refine Con.walk (plainFor_of_name pn_7) ?_
  intro p e s m below meth c T0 X0 hx hZ hby hml hown hnm hret hlk e0
  obtain ⟨hw, ⟨cz, S_CS, hcz⟩, ⟨k0, k1, k2, k3, kr, S_K0, S_K1, S_K2, S_K3, S_KR⟩, ⟨ust, sen, ⟨S_US, hus⟩, ⟨S_SE, hsen⟩⟩⟩ := id hD
  have N0 := Fr.nil Z.heap.size
  refine OEnds.cast (ef_get_refusal m a) ?_
  refine OEnds.st (S' := T0.setTop (mkF m 1 #[vr a] [(.ref a)])) (fun _ k => ?_) ?_
  · refine XS.aloadN X0.here hx rfl (hb hby d_prog_25_9_0) rfl rfl ?_
    exact k
  obtain ⟨T1, X1, e1, st1⟩ := getF X0 hx hZ hown (host := "") (Or.inl (wq hw 110 rfl)) Via.refl e0 F_refusal_a (g := (mkF m 1 #[vr a] [(.ref a)])) rfl rfl (hb hby d_prog_25_9_1)
  refine OEnds.st st1 ?_
  exact OEnds.ret X1 hx hret hlk rfl (Or.inr (Or.inr (Or.inr (Or.inr ⟨rfl, rfl, rfl⟩)))) (hb hby d_prog_25_9_4) (by decide) (by decide) (by rw [e1]; exact ⟨rfl, N0, rfl⟩)
def Q_law (Z : State) (v : Option Value) (h : Heap) (L : List Loc) : Prop := v = some (.int 1) ∧ Fr Z.heap.size L
-- com/example/driftkey/driftkey/storage/WriteResultRefusedPinLaw.law:(III)Z
theorem ef_law (m : MethodId) (p0 : Int32) (p1 : Int32) (p2 : Int32) : entryFrame m #[(.int p0), (.int p1), (.int p2)] maxLocals = mkF m 0 #[vi p0, vi p1, vi p2, .unset, .unset, .unset, .unset] [] := by first | (simp [entryFrame, mkF, argsToLocals, Value.category, vi, vj, vr, maxLocals]; done) | rfl
theorem pd_9 : parseMethodDescriptor "(I)Lcom/example/driftkey/driftkey/request/ErrorType;" = some ⟨[.int], some (.object "com/example/driftkey/driftkey/request/ErrorType")⟩ := by decide +kernel
theorem pd_10 : parseMethodDescriptor "(III)Ljava/lang/String;" = some ⟨[.int, .int, .int], some (.object "java/lang/String")⟩ := by decide +kernel
theorem pd_11 : parseMethodDescriptor "(Lcom/example/driftkey/driftkey/request/ErrorType;Ljava/lang/String;)V" = some ⟨[(.object "com/example/driftkey/driftkey/request/ErrorType"), (.object "java/lang/String")], none⟩ := by decide +kernel
theorem pd_12 : parseMethodDescriptor "(Lcom/example/driftkey/driftkey/request/RequestException;)Lcom/example/driftkey/driftkey/storage/WriteResult;" = some ⟨[(.object "com/example/driftkey/driftkey/request/RequestException")], some (.object "com/example/driftkey/driftkey/storage/WriteResult")⟩ := by decide +kernel
theorem pd_13 : parseMethodDescriptor "()Lcom/example/driftkey/driftkey/storage/WriteResult$Outcome;" = some ⟨[], some (.object "com/example/driftkey/driftkey/storage/WriteResult$Outcome")⟩ := by decide +kernel
theorem pd_14 : parseMethodDescriptor "()J" = some ⟨[], some .long⟩ := by decide +kernel
theorem pd_15 : parseMethodDescriptor "()Lcom/example/driftkey/driftkey/request/RequestException;" = some ⟨[], some (.object "com/example/driftkey/driftkey/request/RequestException")⟩ := by decide +kernel
set_option maxRecDepth 65536 in
set_option maxHeartbeats 40000000 in
theorem rm_law (l : Launch) {Z : State} {a0 : Array Value} (hD : Wd Z a0) (p0 : Int32) (p1 : Int32) (p2 : Int32) {h0 : Heap} (O0 : Ext Z.heap h0) (hl : l.stackTraces = true) :
    ConHK l Z EL x code maxLocals ret tables_1 room_1 #[(.int p0), (.int p1), (.int p2)] h0 [] (Q_law Z) := by
  refine ConHK.walk (plainFor_of_name pn_2) ?_
  intro p e s vm0 k0 m below meth c T0 X0 hS0 hk0 hx hZ hby hml hown hnm hret hlk e0 A0 hss hTK hBelow hsh
  obtain ⟨hw, ⟨cz, S_CS, hcz⟩, ⟨k0, k1, k2, k3, kr, S_K0, S_K1, S_K2, S_K3, S_KR⟩, ⟨ust, sen, ⟨S_US, hus⟩, ⟨S_SE, hsen⟩⟩⟩ := id hD
  have N0 := Fr.nil Z.heap.size
  have hEL : EW Z a0 EL := el_of hw
  have hsa : ∀ a ∈ Bundle.stringAtoms, a.before a0 Z = true := fun d hd => hw d (words_sa d hd)
  refine OEndsH.cast (ef_law m p0 p1 p2) ?_
  refine OEndsH.st (S' := T0.setTop (mkF m 1 #[vi p0, vi p1, vi p2, .unset, .unset, .unset, .unset] [(.int p0)])) (fun _ k => ?_) ?_
  · refine XS.iloadN X0.here hx rfl (hb hby at_0) rfl ?_
    exact k
  obtain ⟨_, T1, h1, L1, X1, e1, hQ1, st1⟩ := callC X0 hx hZ hown (wq hw 0 rfl) (wq hw 1 rfl) (wq hw 2 rfl) (wq hw 3 rfl) (by decide) (kc := 0) (ks := 0) (Con.sb (W := 0) (rm_pick l hD p0 O0) hZ (wq hw 3 rfl) (wq hw 2 rfl) (by decide) (by decide)) e0 (g := (mkF m 1 #[vi p0, vi p1, vi p2, .unset, .unset, .unset, .unset] [(.int p0)])) rfl (by rw [hml]; rfl) (argsL := [(.int p0)]) (rest := []) (lenOf pd_9 rfl) rfl (by show 2 * 0 + _ ≤ _; exact Nat.le_of_eq rfl) (hb hby at_1) (by decide) (by decide)
  obtain ⟨et1, rfl, Nq1, Hq1⟩ := hQ1
  refine OEndsH.st st1 ?_
  replace N0 := Fr.app N0 Nq1
  replace e1 := e1.trans Hq1
  refine OEndsH.st (S' := T1.setTop (mkF m 8 #[vi p0, vi p1, vi p2, vr et1, .unset, .unset, .unset] [(.int p2), (.int p1), (.int p0)])) (fun _ k => ?_) ?_
  · refine XS.astoreN X1.here hx rfl (hb hby at_4) rfl rfl (l' := #[vi p0, vi p1, vi p2, vr et1, .unset, .unset, .unset]) rfl ?_
    refine XS.iloadN X1.here hx rfl (hb hby at_5) rfl ?_
    refine XS.iloadN X1.here hx rfl (hb hby at_6) rfl ?_
    refine XS.iloadN X1.here hx rfl (hb hby at_7) rfl ?_
    exact k
  obtain ⟨_, T2, h2, L2, vm2, k12, X2, e2, hQ2, hS2, hk2, hZ2, hown2, Aq2, st2⟩ := callH X1 hx hZ hown (wq hw 7 rfl) (wq hw 8 rfl) (wq hw 2 rfl) (wq hw 9 rfl) (by decide) (kc := 7) (ks := 14) (ConH.sb (W := 0) (rm_reason l hD p0 p1 p2 O0) hZ (wq hw 9 rfl) (wq hw 2 rfl) (by decide) (by decide) hEL A0.1 all0) e1 hS0 hk0 (g := (mkF m 8 #[vi p0, vi p1, vi p2, vr et1, .unset, .unset, .unset] [(.int p2), (.int p1), (.int p0)])) rfl (by rw [hml]; rfl) (argsL := [(.int p0), (.int p1), (.int p2)]) (rest := []) (lenOf pd_10 rfl) rfl (by show 2 * 0 + _ ≤ _; exact Nat.le_of_eq rfl) (hb hby at_8) (by decide) (by decide)
  obtain ⟨wy2, rfl, Nq2, Kq2⟩ := hQ2
  replace A0 : CHr Z EL s.vm s.heap vm2 h2 := A0.trans Aq2
  refine OEndsH.st st2 ?_
  replace N0 := Fr.app N0 Nq2
  replace O0 : Ext Z.heap h2 := ext_keep O0 Kq2 all0
  refine OEndsH.st (S' := T2.setTop (mkF m 13 #[vi p0, vi p1, vi p2, vr et1, vr wy2, .unset, .unset] [])) (fun _ k => ?_) ?_
  · refine XS.astore X2.here hx rfl (hb hby at_11) rfl rfl (l' := #[vi p0, vi p1, vi p2, vr et1, vr wy2, .unset, .unset]) rfl ?_
    exact k
  obtain ⟨T3, h3, X3, e3, E3, A3, D3, U3, st3⟩ := newO X2 hx hZ2 hown2 (wq hw 32 rfl) (wq hw 33 rfl) (wq hw 34 rfl) e2 (g := (mkF m 13 #[vi p0, vi p1, vi p2, vr et1, vr wy2, .unset, .unset] [])) rfl (hb hby at_13) (by decide) (by decide)
  obtain ⟨b3, g3⟩ : ∃ z, z = h2.size := ⟨_, rfl⟩
  rw [← g3] at A3 D3 U3 st3
  refine OEndsH.st st3 ?_
  have ge_b3 : Z.heap.size ≤ b3 := Nat.le_trans O0.1 (Nat.le_of_eq g3.symm)
  have S_b3 : Safe Z EL vm2 h2 b3 := Safe.new (Nat.le_of_eq g3.symm)
  have S_b3' : Safe Z EL vm2 h3 b3 := Safe.ext E3 A0.1 S_b3
  have A' : CHr Z EL s.vm s.heap vm2 h3 := A0.trans (CHr.ext E3 A0.1)
  replace S_b3 := S_b3'
  replace A0 := A'
  replace hk2 := Nat.le_trans hk2 E3.1
  replace O0 : Ext Z.heap h3 := ext_trans O0 E3
  have F_cause_b3 : Fld Z h3 b3 "java/lang/Throwable" "cause" "Ljava/lang/Throwable;" .null := D3 (Or.inl (wq hw 51 rfl)) (ty := (.object "java/lang/Throwable")) (by decide)
  have F_stackTrace_b3 : Fld Z h3 b3 "java/lang/Throwable" "stackTrace" "[Ljava/lang/StackTraceElement;" .null := D3 (Or.inl (wq hw 54 rfl)) (ty := (.array (.object "java/lang/StackTraceElement"))) (by decide)
  have F_suppressedExceptions_b3 : Fld Z h3 b3 "java/lang/Throwable" "suppressedExceptions" "Ljava/util/List;" .null := D3 (Or.inl (wq hw 57 rfl)) (ty := (.object "java/util/List")) (by decide)
  have F_detailMessage_b3 : Fld Z h3 b3 "java/lang/Throwable" "detailMessage" "Ljava/lang/String;" .null := D3 (Or.inl (wq hw 81 rfl)) (ty := (.object "java/lang/String")) (by decide)
  have F_backtrace_b3 : Fld Z h3 b3 "java/lang/Throwable" "backtrace" "Ljava/lang/Object;" .null := D3 (Or.inl (wq hw 82 rfl)) (ty := (.object "java/lang/Object")) (by decide)
  have F_depth_b3 : Fld Z h3 b3 "java/lang/Throwable" "depth" "I" (.int 0) := D3 (Or.inl (wq hw 83 rfl)) (ty := .int) (by decide)
  have F_type_b3 : Fld Z h3 b3 "com/example/driftkey/driftkey/request/RequestException" "type" "Lcom/example/driftkey/driftkey/request/ErrorType;" .null := D3 (Or.inr (wq hw 87 rfl)) (ty := (.object "com/example/driftkey/driftkey/request/ErrorType")) (by decide)
  refine OEndsH.st (S' := T3.setTop (mkF m 20 #[vi p0, vi p1, vi p2, vr et1, vr wy2, .unset, .unset] [(.ref wy2), (.ref et1), (.ref b3), (.ref b3)])) (fun _ k => ?_) ?_
  · refine XS.dup X3.here hx rfl (hb hby at_16) rfl rfl ?_
    refine XS.aloadN X3.here hx rfl (hb hby at_17) rfl rfl ?_
    refine XS.aload X3.here hx rfl (hb hby at_18) rfl rfl ?_
    exact k
  have U_b3 : Unt h3 b3 := U3
  obtain ⟨_, T4, h4, L4, X4, e4, hQ4, st4⟩ := specC X3 hx hZ2 rfl hown2 (wq hw 35 rfl) (wq hw 36 rfl) (wq hw 37 rfl) (by decide) (kc := 1) (ks := 2752) (ConK.sb (W := 1) (rm_reInit l hD b3 et1 wy2 O0 hl A3 U_b3 F_cause_b3 F_stackTrace_b3 F_suppressedExceptions_b3 F_backtrace_b3 F_detailMessage_b3 ge_b3) hZ2 (wq hw 37 rfl) (wq hw 34 rfl) (by decide) (by decide) (hTK.alikeC hS2.1.alike) (hBelow.alikeC hS2.1.alike)) e3 (a := b3) (g := (mkF m 20 #[vi p0, vi p1, vi p2, vr et1, vr wy2, .unset, .unset] [(.ref wy2), (.ref et1), (.ref b3), (.ref b3)])) rfl (by rw [hml]; rfl) (argsL := [(.ref et1), (.ref wy2)]) (rest := [(.ref b3)]) (lenOf pd_11 rfl) rfl (by show 2 * 0 + _ ≤ _; exact Nat.le_of_eq rfl) (hb hby at_20) (by decide) (by decide)
  obtain ⟨rfl, Nq4, Kq4⟩ := hQ4
  refine OEndsH.st st4 ?_
  replace N0 := Fr.app N0 Nq4
  replace A3 := A3.keep Kq4
  have S_b3' : Safe Z EL vm2 h4 b3 := Safe.keep Kq4 (sfS S_b3 sf0) A0.1 S_b3
  have A' : CHr Z EL s.vm s.heap vm2 h4 := A0.trans (CHr.keep Kq4 (sfS S_b3 sf0) A0.1)
  replace S_b3 := S_b3'
  replace A0 := A'
  replace hk2 := Nat.le_trans hk2 Kq4.1
  replace O0 : Ext Z.heap h4 := ext_keep O0 Kq4 (allS ge_b3 all0)
  refine OEndsH.st (S' := T4.setTop (mkF m 27 #[vi p0, vi p1, vi p2, vr et1, vr wy2, vr b3, .unset] [(.ref b3)])) (fun _ k => ?_) ?_
  · refine XS.astore X4.here hx rfl (hb hby at_23) rfl rfl (l' := #[vi p0, vi p1, vi p2, vr et1, vr wy2, vr b3, .unset]) rfl ?_
    refine XS.aload X4.here hx rfl (hb hby at_25) rfl rfl ?_
    exact k
  obtain ⟨_, T5, h5, L5, X5, e5, hQ5, st5⟩ := callC X4 hx hZ2 hown2 (wq hw 88 rfl) (wq hw 89 rfl) (wq hw 90 rfl) (wq hw 91 rfl) (by decide) (kc := 1) (ks := 3) (Con.sb (W := 0) (rm_refused l hD b3 kr O0 S_KR) hZ2 (wq hw 91 rfl) (wq hw 90 rfl) (by decide) (by decide)) e4 (g := (mkF m 27 #[vi p0, vi p1, vi p2, vr et1, vr wy2, vr b3, .unset] [(.ref b3)])) rfl (by rw [hml]; rfl) (argsL := [(.ref b3)]) (rest := []) (lenOf pd_12 rfl) rfl (by show 2 * 0 + _ ≤ _; exact Nat.le_of_eq rfl) (hb hby at_27) (by decide) (by decide)
  obtain ⟨r5, rfl, Nq5, Kq5, szr5, Er5, Fo5, Fv5, Fr5⟩ := hQ5
  refine OEndsH.st st5 ?_
  replace N0 := Fr.app N0 Nq5
  have ne_b3_r5 : b3 ≠ r5 := Nat.ne_of_lt (Nat.lt_of_lt_of_le A3.lt szr5)
  have ge_r5 : Z.heap.size ≤ r5 := Nat.le_trans O0.1 szr5
  have S_r5 : Safe Z EL vm2 h4 r5 := Safe.new szr5
  replace A3 := A3.keep Kq5
  have S_b3' : Safe Z EL vm2 h5 b3 := Safe.keep Kq5 sf0 A0.1 S_b3
  have S_r5' : Safe Z EL vm2 h5 r5 := Safe.keep Kq5 sf0 A0.1 S_r5
  have A' : CHr Z EL s.vm s.heap vm2 h5 := A0.trans (CHr.keep Kq5 sf0 A0.1)
  replace S_b3 := S_b3'
  replace S_r5 := S_r5'
  replace A0 := A'
  replace hk2 := Nat.le_trans hk2 Kq5.1
  replace O0 : Ext Z.heap h5 := ext_keep O0 Kq5 all0
  refine OEndsH.st (S' := T5.setTop (mkF m 34 #[vi p0, vi p1, vi p2, vr et1, vr wy2, vr b3, vr r5] [(.ref r5)])) (fun _ k => ?_) ?_
  · refine XS.astore X5.here hx rfl (hb hby at_30) rfl rfl (l' := #[vi p0, vi p1, vi p2, vr et1, vr wy2, vr b3, vr r5]) rfl ?_
    refine XS.aload X5.here hx rfl (hb hby at_32) rfl rfl ?_
    exact k
  obtain ⟨_, T6, h6, L6, X6, e6, hQ6, st6⟩ := virtC X5 hx hZ2 (y := (⟨"com/example/driftkey/driftkey/storage/WriteResult", "outcome", "()Lcom/example/driftkey/driftkey/storage/WriteResult$Outcome;"⟩ : MethodName)) (z := (⟨"com/example/driftkey/driftkey/storage/WriteResult", "outcome", "()Lcom/example/driftkey/driftkey/storage/WriteResult$Outcome;"⟩ : MethodName)) hown2 (wq hw 112 rfl) (wq hw 113 rfl) (nf_sel (args := #[]) (mvT hZ2 (wq hw 115 rfl)) rfl) (wq hw 115 rfl) (wq hw 114 rfl) (by decide) (kc := 0) (ks := 0) (Con.sb (W := 0) (rm_get_outcome l hD r5 kr O0 Fo5) hZ2 (wq hw 116 rfl) (wq hw 90 rfl) (by decide) (by decide)) e5 Er5 (g := (mkF m 34 #[vi p0, vi p1, vi p2, vr et1, vr wy2, vr b3, vr r5] [(.ref r5)])) rfl (by rw [hml]; rfl) (argsL := []) (rest := []) (lenOf pd_13 rfl) rfl (by show 2 * 0 + _ ≤ _; exact Nat.le_of_eq rfl) (hb hby at_34) (by decide) (by decide)
  obtain ⟨rfl, Nq6, Hq6⟩ := hQ6
  refine OEndsH.st st6 ?_
  replace N0 := Fr.app N0 Nq6
  replace e6 := e6.trans Hq6
  obtain ⟨T7, X7, e7, st7⟩ := getS2 X6 hx hZ2 hown2 (host := "") (Or.inl (wq hw 117 rfl)) Via.refl e6 (S_KR.ext O0) (g := (mkF m 37 #[vi p0, vi p1, vi p2, vr et1, vr wy2, vr b3, vr r5] [(.ref kr)])) rfl (hb hby at_37)
  refine OEndsH.st st7 ?_
  refine OEndsH.st (S' := T7.setTop (mkF m 45 #[vi p0, vi p1, vi p2, vr et1, vr wy2, vr b3, vr r5] [(.ref r5)])) (fun _ k => ?_) ?_
  · have hq40 : Jvm.Free.XT.acmp .ne ((.ref kr) : Value) ((.ref kr) : Value) = false := (Jvm.Free.XT.aa_ne_f rfl)
    refine Jvm.Free.XT.acmpNo X7.here hx rfl (hb hby at_40) rfl rfl rfl hq40 ?_
    refine XS.aload X7.here hx rfl (hb hby at_43) rfl rfl ?_
    exact k
  obtain ⟨_, T8, h8, L8, X8, e8, hQ8, st8⟩ := virtC X7 hx hZ2 (y := (⟨"com/example/driftkey/driftkey/storage/WriteResult", "version", "()J"⟩ : MethodName)) (z := (⟨"com/example/driftkey/driftkey/storage/WriteResult", "version", "()J"⟩ : MethodName)) hown2 (wq hw 118 rfl) (wq hw 119 rfl) (nf_sel (args := #[]) (mvT hZ2 (wq hw 115 rfl)) rfl) (wq hw 121 rfl) (wq hw 120 rfl) (by decide) (kc := 0) (ks := 0) (Con.sb (W := 0) (rm_get_version l hD r5 (0 : Int64) O0 Fv5) hZ2 (wq hw 122 rfl) (wq hw 90 rfl) (by decide) (by decide)) e7 Er5 (g := (mkF m 45 #[vi p0, vi p1, vi p2, vr et1, vr wy2, vr b3, vr r5] [(.ref r5)])) rfl (by rw [hml]; rfl) (argsL := []) (rest := []) (lenOf pd_14 rfl) rfl (by show 2 * 0 + _ ≤ _; exact Nat.le_of_eq rfl) (hb hby at_45) (by decide) (by decide)
  obtain ⟨rfl, Nq8, Hq8⟩ := hQ8
  refine OEndsH.st st8 ?_
  replace N0 := Fr.app N0 Nq8
  replace e8 := e8.trans Hq8
  refine OEndsH.st (S' := T8.setTop (mkF m 55 #[vi p0, vi p1, vi p2, vr et1, vr wy2, vr b3, vr r5] [(.ref r5)])) (fun _ k => ?_) ?_
  · refine XS.lconst X8.here hx rfl (hb hby at_48) ?_
    refine XS.lcmp X8.here hx rfl (hb hby at_49) rfl ?_
    refine XS.ifNo X8.here hx rfl (hb hby at_50) rfl ((if0 _ _).trans (teq (by decide)).2) ?_
    refine XS.aload X8.here hx rfl (hb hby at_53) rfl rfl ?_
    exact k
  obtain ⟨_, T9, h9, L9, X9, e9, hQ9, st9⟩ := virtC X8 hx hZ2 (y := (⟨"com/example/driftkey/driftkey/storage/WriteResult", "refusal", "()Lcom/example/driftkey/driftkey/request/RequestException;"⟩ : MethodName)) (z := (⟨"com/example/driftkey/driftkey/storage/WriteResult", "refusal", "()Lcom/example/driftkey/driftkey/request/RequestException;"⟩ : MethodName)) hown2 (wq hw 123 rfl) (wq hw 124 rfl) (nf_sel (args := #[]) (mvT hZ2 (wq hw 115 rfl)) rfl) (wq hw 126 rfl) (wq hw 125 rfl) (by decide) (kc := 0) (ks := 0) (Con.sb (W := 0) (rm_get_refusal l hD r5 b3 O0 Fr5) hZ2 (wq hw 127 rfl) (wq hw 90 rfl) (by decide) (by decide)) e8 Er5 (g := (mkF m 55 #[vi p0, vi p1, vi p2, vr et1, vr wy2, vr b3, vr r5] [(.ref r5)])) rfl (by rw [hml]; rfl) (argsL := []) (rest := []) (lenOf pd_15 rfl) rfl (by show 2 * 0 + _ ≤ _; exact Nat.le_of_eq rfl) (hb hby at_55) (by decide) (by decide)
  obtain ⟨rfl, Nq9, Hq9⟩ := hQ9
  refine OEndsH.st st9 ?_
  replace N0 := Fr.app N0 Nq9
  replace e9 := e9.trans Hq9
  refine OEndsH.st (S' := T9.setTop (mkF m 68 #[vi p0, vi p1, vi p2, vr et1, vr wy2, vr b3, vr r5] [(.int 1)])) (fun _ k => ?_) ?_
  · refine XS.aload X9.here hx rfl (hb hby at_58) rfl rfl ?_
    have hq60 : Jvm.Free.XT.acmp .ne ((.ref b3) : Value) ((.ref b3) : Value) = false := (Jvm.Free.XT.aa_ne_f rfl)
    refine Jvm.Free.XT.acmpNo X9.here hx rfl (hb hby at_60) rfl rfl rfl hq60 ?_
    refine XS.iconst X9.here hx rfl (hb hby at_63) ?_
    refine XS.goto X9.here hx rfl (pc0 := 64) (pc' := 68) rfl (hb hby at_64) (by decide) (by decide) ?_
    exact k
  exact OEndsH.ret X9 hx hZ2 hEL e9 hS2 hk2 A0 hret hlk (by decide) (Or.inl ⟨rfl, by simp, _, rfl⟩) (hb hby at_68) (by decide) (by decide) ⟨rfl, N0⟩
theorem consts_in : ∀ q ∈ EL, q ∈ consts_1 := by decide
set_option maxRecDepth 65536 in
set_option maxHeartbeats 40000000 in
theorem comes_1 {Post : Tables → Env → Array Value → State → Outcome → State → Prop} (hpost : ∀ tb e args s v u, (limb_1_1.after args s (.returned v) u = true ∧ limb_1_2.after args s (.returned v) u = true ∧ True) → Jvm.D.FramedW s (.returned v) u (Jvm.fieldLocs frame_1_writes args s ++ Jvm.arrayLocs frame_1_arrays args s ++ Jvm.staticLocs frame_1_statics s) 24 6656 → Post tb e args s (.returned v) u) :
    ArmFor flags0 classFile x code maxLocals ret World_1 tables_1 room_1 Calls_1 rest_1 Pre_1 Post := by
  intro l hfl _ _ p e ha hc hk s m args below hf hA hF happ hP
  obtain ⟨hcalls, hrest, hpre⟩ := hP
  obtain ⟨-, -, -, hnamed, -, -, -, hat⟩ := (Spec.applies_iff hf).mp happ
  obtain ⟨hg, hn⟩ := and_e (Cond.before_iff.mp (show (Jvm.Cond.and given_1 narrow_1).before args s = true from hpre))
  obtain ⟨g0, g1⟩ := and_e hg
  obtain ⟨ga0, g2⟩ := and_e g1
  obtain ⟨ga1, g3⟩ := and_e g2
  obtain ⟨w0, w1, w2, rfl⟩ : ∃ w0 w1 w2 : Value, args = #[w0, w1, w2] := by
    have hs : args.size = 3 := by simpa [Cond.value, given_1] using g0
    obtain ⟨L⟩ := args
    match L, hs with
    | [w0, w1, w2], _ => exact ⟨w0, w1, w2, rfl⟩
  have hw := fun d (hd : d ∈ tables_1) => atoms_spec (ws := Jvm.Cond.code x code maxLocals ret :: tables_1) hat d (List.mem_cons_of_mem _ hd)
  have hfit : Fit s := fun {y c} hc i hi => by
    obtain ⟨ha, rfl⟩ := Array.getElem?_eq_some_iff.mp hc
    have q := List.all_eq_true.mp ((Array.all_eq_true_iff_forall_mem.mp hF) _ (Array.getElem_mem ha)) i (List.mem_range.mpr hi)
    simpa [Array.getElem?_eq_getElem hi] using q
  obtain ⟨hsets, hown0⟩ := atoms_of _ (rest_1_c_eq ▸ (show rest_1_c.before _ s = true from hrest))
  obtain ⟨i0, ei0⟩ := is_v ga0
  obtain rfl : w0 = (.int i0) := Option.some.inj ei0
  obtain ⟨i1, ei1⟩ := is_v ga1
  obtain rfl : w1 = (.int i1) := Option.some.inj ei1
  obtain ⟨i2, ei2⟩ := is_v g3
  obtain rfl : w2 = (.int i2) := Option.some.inj ei2
  obtain ⟨cz, ecz⟩ := is_v (Cond.before_iff.mp (hsets _ (List.mem_of_getElem? (i := 21) rfl)))
  have S_CS : Sta s s.heap "java/lang/String" "COMPACT_STRINGS" "Z" (.int cz) := Sta.start ecz (Or.inl (hsets _ (List.mem_of_getElem? (i := 20) rfl)))
  have hcz : ¬ (cz = (0 : Int32)) := gotF (Cond.eq_ints ecz (Term.int_eval (0))) (not_v (Cond.before_iff.mp (hsets _ (List.mem_of_getElem? (i := 22) rfl))))
  obtain ⟨nj0, nr0⟩ := and_e hn
  obtain ⟨nj1, nr1⟩ := and_e nr0
  obtain ⟨nj2, nr2⟩ := and_e nr1
  obtain ⟨nj3, nr3⟩ := and_e nr2
  have nj4 := nr3
  obtain ⟨k0, ek0⟩ := exa_v nj0
  have S_K0 : Sta s s.heap "com/example/driftkey/driftkey/request/ErrorType" "MAPPER_PARSING" "Lcom/example/driftkey/driftkey/request/ErrorType;" (.ref k0) := Sta.start ek0 (Or.inr ⟨hw _ (List.mem_of_getElem? (i := 5) rfl), hw _ (List.mem_of_getElem? (i := 6) rfl)⟩)
  obtain ⟨k1, ek1⟩ := exa_v nj2
  have S_K1 : Sta s s.heap "com/example/driftkey/driftkey/request/ErrorType" "PARSING" "Lcom/example/driftkey/driftkey/request/ErrorType;" (.ref k1) := Sta.start ek1 (Or.inr ⟨hw _ (List.mem_of_getElem? (i := 5) rfl), hw _ (List.mem_of_getElem? (i := 129) rfl)⟩)
  obtain ⟨k2, ek2⟩ := exa_v nj4
  have S_K2 : Sta s s.heap "com/example/driftkey/driftkey/request/ErrorType" "ILLEGAL_ARGUMENT" "Lcom/example/driftkey/driftkey/request/ErrorType;" (.ref k2) := Sta.start ek2 (Or.inr ⟨hw _ (List.mem_of_getElem? (i := 5) rfl), hw _ (List.mem_of_getElem? (i := 144) rfl)⟩)
  obtain ⟨k3, ek3⟩ := exa_v nj3
  have S_K3 : Sta s s.heap "com/example/driftkey/driftkey/request/ErrorType" "TOO_MANY_BUCKETS" "Lcom/example/driftkey/driftkey/request/ErrorType;" (.ref k3) := Sta.start ek3 (Or.inr ⟨hw _ (List.mem_of_getElem? (i := 5) rfl), hw _ (List.mem_of_getElem? (i := 142) rfl)⟩)
  obtain ⟨kr, ek4⟩ := exa_v nj1
  have S_KR : Sta s s.heap "com/example/driftkey/driftkey/storage/WriteResult$Outcome" "REFUSED" "Lcom/example/driftkey/driftkey/storage/WriteResult$Outcome;" (.ref kr) := Sta.start ek4 (Or.inr ⟨hw _ (List.mem_of_getElem? (i := 95) rfl), hw _ (List.mem_of_getElem? (i := 96) rfl)⟩)
  obtain ⟨ust, e_ust, hus⟩ := isR_v (Cond.before_iff.mp (hsets _ (List.mem_of_getElem? (i := 7) rfl)))
  have S_US : Sta s s.heap "java/lang/Throwable" "UNASSIGNED_STACK" "[Ljava/lang/StackTraceElement;" ust := Sta.start e_ust (Or.inr ⟨hw _ (List.mem_of_getElem? (i := 47) rfl), hw _ (List.mem_of_getElem? (i := 78) rfl)⟩)
  obtain ⟨sen, e_sen, hsen⟩ := isR_v (Cond.before_iff.mp (hsets _ (List.mem_of_getElem? (i := 12) rfl)))
  have S_SE : Sta s s.heap "java/lang/Throwable" "SUPPRESSED_SENTINEL" "Ljava/util/List;" sen := Sta.start e_sen (Or.inr ⟨hw _ (List.mem_of_getElem? (i := 47) rfl), hw _ (List.mem_of_getElem? (i := 79) rfl)⟩)
  have hD : Wd s _ := ⟨hw, ⟨cz, S_CS, hcz⟩, ⟨k0, k1, k2, k3, kr, S_K0, S_K1, S_K2, S_K3, S_KR⟩, ⟨ust, sen, ⟨S_US, hus⟩, ⟨S_SE, hsen⟩⟩⟩
  have hC : CHv s EL s.vm s.heap := CHv.start (el_of hw) (fun q hq => hcalls.2.2.1 q (consts_in q hq)) (hsets _ (List.mem_of_getElem? (i := 22) rfl)) (wq hw 25 rfl) (wq hw 12 rfl)
  obtain ⟨n, o, h1, h2, h3, _, L, rfl, ⟨rfl, N⟩, -, hq⟩ := rm_law l hD i0 i1 i2 (ext_refl s.heap) (by unfold Launch.stackTraces; rw [hfl]; decide) p e ha hc hk s m _ below hf ((Spec.applies_iff_loose hf).mp happ).1 ⟨rfl, State.Warmed39.refl s, rfl, hC, fun x hx => nomatch hx⟩ ⟨mk_of hcalls.2.1, fk_of hf hcalls.1⟩
  refine ⟨n, _, h1, h2, h3, hpost _ _ _ _ _ _ ⟨Cond.after_iff.mpr rfl, Cond.after_iff.mpr (eq_i res_at (Term.int_eval (1)) rfl), trivial⟩ ⟨hq.1, hq.2.1, hq.2.2.1, (hq.2.2.2.sift fun y hy => Or.inr (N y hy)).mono (by decide) (by decide)⟩⟩
theorem main_1_1 : Claimed_1_1 := comes_1 fun _ _ _ _ _ _ h hF => ⟨h.1, hF⟩
theorem main_1_2 : Claimed_1_2 := comes_1 fun _ _ _ _ _ _ h hF => ⟨h.2.1, hF⟩
end Jvm.Pilot.@@N@@
namespace Jvm.Pilot.@@N@@
open Jvm Jvm.ClassFile Sem Op Lib Jvm.Free Jvm.Stand Jvm.Pilot.@@N@@.Jvm.D
/-! MADE BY PROGRAM (witnessworld.py) out of the Statement's table words and the real class files: 40 classes; the members and pool entries that the words name. The judged class is class 1, her method 3. -/
namespace start1
open Jvm.ClassFile
def u (s : String) : CpInfo := .utf8 (stringToUtf16 s)
/-- a pool by its gaps: so many unusable entries, then the entry; so many at the end -/
def gap : Nat → List CpInfo → List CpInfo
  | 0, r => r
  | n + 1, r => .unusable :: gap n r
def poolList (es : List (Nat × CpInfo)) (last : Nat) : List CpInfo := es.foldr (fun e r => gap e.1 (e.2 :: r)) (gap last [])
def pool (es : List (Nat × CpInfo)) (last : Nat) : Array CpInfo := ⟨poolList es last⟩
def fileOf (pool : Array CpInfo) (this : Nat) (attrs : Array Attribute := #[]) (ms : Array MethodInfo := #[]) (fl : Nat := 33) (sup : Nat := 0) (ifs : Array Nat := #[]) (fds : Array FieldInfo := #[]) : ClassFile where
  minorVersion := 0
  majorVersion := 65
  constantPool := pool
  accessFlags := fl
  thisClass := this
  superClass := sup
  interfaces := ifs
  fields := fds
  methods := ms
  attributes := attrs
def plain (name : String) (sup : Option ClassId) : Class where
  name := name
  kind := .ordinary
  loader := none
  accessFlags := 33
  super := sup
  interfaces := #[]
  cf := none
  fields := #[]
  methods := #[]
  instanceTypes := #[]
  staticTypes := #[]
  resolved := #[]
  callSites := []
  init := .initialized
  statics := none
  mirror := none

def pool0 : Array CpInfo := pool [(5, u "<init>"), (0, u "()V"), (1, .class_ 10), (1, u "java/lang/Object")] 113

def k0c0 : Code := { maxStack := 0, maxLocals := 1, code := object_method_1_code, exceptionTable := #[], attributes := #[] }
def k0m0 : Method := { name := "<init>", desc := "()V", sig := { parameters := [], returnType := none }, accessFlags := 1, code := some k0c0 }
/-- java/lang/Object -/
def k0 : Class := { plain "java/lang/Object" none with
  accessFlags := 33
  interfaces := #[]
  cf := some (fileOf pool0 8 #[] #[{ accessFlags := 1, nameIndex := 5, descriptorIndex := 6, attributes := #[] }] 33 0 #[] #[])
  fields := #[]
  methods := #[k0m0]
  instanceTypes := #[]
  staticTypes := #[]
  resolved := Array.replicate 124 none
  statics := none }

def pool1 : Array CpInfo := pool [(2, .class_ 4), (1, u "java/lang/Object"), (0, u "<init>"), (0, u "()V"), (0, .fieldref 8 9), (0, .class_ 10), (0, .nameAndType 11 12), (0, u "com/example/driftkey/driftkey/request/ErrorType"), (0, u "MAPPER_PARSING"), (0, u "Lcom/example/driftkey/driftkey/request/ErrorType;"), (0, .fieldref 8 14), (0, .nameAndType 15 12), (0, u "PARSING"), (0, .fieldref 8 17), (0, .nameAndType 18 12), (0, u "ILLEGAL_ARGUMENT"), (0, .fieldref 8 20), (0, .nameAndType 21 12), (0, u "TOO_MANY_BUCKETS"), (0, .class_ 23), (0, u "java/lang/String"), (0, .methodref 22 25), (0, .nameAndType 5 26), (0, u "([C)V"), (0, .methodref 22 28), (0, .nameAndType 29 30), (0, u "valueOf"), (0, u "(C)Ljava/lang/String;"), (0, .methodref 32 33), (0, .class_ 34), (0, .nameAndType 35 36), (0, u "com/example/driftkey/driftkey/storage/WriteResultRefusedPinLaw"), (0, u "pick"), (0, u "(I)Lcom/example/driftkey/driftkey/request/ErrorType;"), (0, .methodref 32 38), (0, .nameAndType 39 40), (0, u "reason"), (0, u "(III)Ljava/lang/String;"), (0, .class_ 42), (0, u "com/example/driftkey/driftkey/request/RequestException"), (0, .methodref 41 44), (0, .nameAndType 5 45), (0, u "(Lcom/example/driftkey/driftkey/request/ErrorType;Ljava/lang/String;)V"), (0, .methodref 47 48), (0, .class_ 49), (0, .nameAndType 50 51), (0, u "com/example/driftkey/driftkey/storage/WriteResult"), (0, u "refused"), (0, u "(Lcom/example/driftkey/driftkey/request/RequestException;)Lcom/example/driftkey/driftkey/storage/WriteResult;"), (0, .methodref 47 53), (0, .nameAndType 54 55), (0, u "outcome"), (0, u "()Lcom/example/driftkey/driftkey/storage/WriteResult$Outcome;"), (0, .fieldref 57 58), (0, .class_ 59), (0, .nameAndType 60 61), (0, u "com/example/driftkey/driftkey/storage/WriteResult$Outcome"), (0, u "REFUSED"), (0, u "Lcom/example/driftkey/driftkey/storage/WriteResult$Outcome;"), (0, .methodref 47 63), (0, .nameAndType 64 65), (0, u "version"), (0, u "()J"), (0, .methodref 47 67), (0, .nameAndType 68 69), (0, u "refusal"), (0, u "()Lcom/example/driftkey/driftkey/request/RequestException;"), (5, u "law"), (0, u "(III)Z")] 4

def k1m0 : Method := { name := "<init>", desc := "()V", sig := { parameters := [], returnType := none }, accessFlags := 1, code := none }
def k1c1 : Code := { maxStack := 2, maxLocals := 2, code := method_2_code, exceptionTable := #[], attributes := #[] }
def k1m1 : Method := { name := "pick", desc := "(I)Lcom/example/driftkey/driftkey/request/ErrorType;", sig := { parameters := [.int], returnType := some (.object "com/example/driftkey/driftkey/request/ErrorType") }, accessFlags := 10, code := some k1c1 }
def k1c2 : Code := { maxStack := 5, maxLocals := 5, code := method_3_code, exceptionTable := #[], attributes := #[] }
def k1m2 : Method := { name := "reason", desc := "(III)Ljava/lang/String;", sig := { parameters := [.int, .int, .int], returnType := some (.object "java/lang/String") }, accessFlags := 10, code := some k1c2 }
def k1c3 : Code := { maxStack := 4, maxLocals := 7, code := code, exceptionTable := #[], attributes := #[] }
def k1m3 : Method := { name := "law", desc := "(III)Z", sig := { parameters := [.int, .int, .int], returnType := some .boolean }, accessFlags := 9, code := some k1c3 }
/-- com/example/driftkey/driftkey/storage/WriteResultRefusedPinLaw -/
def k1 : Class := { plain "com/example/driftkey/driftkey/storage/WriteResultRefusedPinLaw" (some 0) with
  accessFlags := 49
  interfaces := #[]
  cf := some (fileOf pool1 32 #[] #[{ accessFlags := 1, nameIndex := 5, descriptorIndex := 6, attributes := #[] }, { accessFlags := 10, nameIndex := 35, descriptorIndex := 36, attributes := #[] }, { accessFlags := 10, nameIndex := 39, descriptorIndex := 40, attributes := #[] }, { accessFlags := 9, nameIndex := 75, descriptorIndex := 76, attributes := #[] }] 49 2 #[] #[])
  fields := #[]
  methods := #[k1m0, k1m1, k1m2, k1m3]
  instanceTypes := #[]
  staticTypes := #[]
  resolved := Array.replicate 81 none
  statics := none }

def pool2 : Array CpInfo := pool [(1, .class_ 2), (0, u "java/lang/constant/Constable"), (0, .class_ 4), (0, u "java/lang/Object")] 6

/-- java/lang/constant/Constable -/
def k2 : Class := { plain "java/lang/constant/Constable" (some 0) with
  accessFlags := 1537
  interfaces := #[]
  cf := some (fileOf pool2 1 #[] #[] 1537 3 #[] #[])
  fields := #[]
  methods := #[]
  instanceTypes := #[]
  staticTypes := #[]
  resolved := Array.replicate 11 none
  statics := none }

def pool3 : Array CpInfo := pool [(1, .class_ 2), (0, u "java/lang/Comparable"), (0, .class_ 4), (0, u "java/lang/Object")] 7

/-- java/lang/Comparable -/
def k3 : Class := { plain "java/lang/Comparable" (some 0) with
  accessFlags := 1537
  interfaces := #[]
  cf := some (fileOf pool3 1 #[] #[] 1537 3 #[] #[])
  fields := #[]
  methods := #[]
  instanceTypes := #[]
  staticTypes := #[]
  resolved := Array.replicate 12 none
  statics := none }

def pool4 : Array CpInfo := pool [(1, .class_ 2), (0, u "java/io/Serializable"), (0, .class_ 4), (0, u "java/lang/Object")] 2

/-- java/io/Serializable -/
def k4 : Class := { plain "java/io/Serializable" (some 0) with
  accessFlags := 1537
  interfaces := #[]
  cf := some (fileOf pool4 1 #[] #[] 1537 3 #[] #[])
  fields := #[]
  methods := #[]
  instanceTypes := #[]
  staticTypes := #[]
  resolved := Array.replicate 7 none
  statics := none }

def pool5 : Array CpInfo := pool [(2, .class_ 4), (1, u "java/lang/Enum"), (0, u "name"), (0, u "Ljava/lang/String;"), (2, u "ordinal"), (0, u "I"), (1, .class_ 14), (1, u "java/lang/Object"), (4, u "hash"), (86, .class_ 108), (1, u "java/lang/Enum$EnumDesc"), (2, .class_ 112), (0, u "java/lang/constant/Constable"), (0, .class_ 114), (0, u "java/lang/Comparable"), (0, .class_ 116), (0, u "java/io/Serializable")] 87

/-- java/lang/Enum -/
def k5 : Class := { plain "java/lang/Enum" (some 0) with
  accessFlags := 1057
  interfaces := #[2, 3, 4]
  cf := some (fileOf pool5 2 #[.nestMembers #[106]] #[] 1057 12 #[111, 113, 115] #[{ accessFlags := 18, nameIndex := 5, descriptorIndex := 6, attributes := #[] }, { accessFlags := 18, nameIndex := 9, descriptorIndex := 10, attributes := #[] }, { accessFlags := 2, nameIndex := 19, descriptorIndex := 10, attributes := #[] }])
  fields := #[{ name := "name", type := (.object "java/lang/String"), accessFlags := 18, slot := 0, constantValue := 0 }, { name := "ordinal", type := .int, accessFlags := 18, slot := 1, constantValue := 0 }, { name := "hash", type := .int, accessFlags := 2, slot := 2, constantValue := 0 }]
  methods := #[]
  instanceTypes := #[(.object "java/lang/String"), .int, .int]
  staticTypes := #[]
  resolved := Array.replicate 204 none
  statics := none }

def pool6 : Array CpInfo := pool [(1, .class_ 2), (0, u "com/example/driftkey/driftkey/request/ErrorType"), (2, u "MAPPER_PARSING"), (0, u "Lcom/example/driftkey/driftkey/request/ErrorType;"), (2, u "PARSING"), (2, u "ILLEGAL_ARGUMENT"), (2, u "TOO_MANY_BUCKETS"), (2, u "$VALUES"), (0, u "[Lcom/example/driftkey/driftkey/request/ErrorType;"), (6, .class_ 28), (1, u "java/lang/Enum"), (8, u "apiName"), (0, u "Ljava/lang/String;")] 32

/-- com/example/driftkey/driftkey/request/ErrorType -/
def k6 : Class := { plain "com/example/driftkey/driftkey/request/ErrorType" (some 5) with
  accessFlags := 16433
  interfaces := #[]
  cf := some (fileOf pool6 1 #[] #[] 16433 26 #[] #[{ accessFlags := 16409, nameIndex := 5, descriptorIndex := 6, attributes := #[] }, { accessFlags := 16409, nameIndex := 9, descriptorIndex := 6, attributes := #[] }, { accessFlags := 16409, nameIndex := 12, descriptorIndex := 6, attributes := #[] }, { accessFlags := 16409, nameIndex := 15, descriptorIndex := 6, attributes := #[] }, { accessFlags := 18, nameIndex := 37, descriptorIndex := 38, attributes := #[] }, { accessFlags := 4122, nameIndex := 18, descriptorIndex := 19, attributes := #[] }])
  fields := #[{ name := "MAPPER_PARSING", type := (.object "com/example/driftkey/driftkey/request/ErrorType"), accessFlags := 16409, slot := 0, constantValue := 0 }, { name := "PARSING", type := (.object "com/example/driftkey/driftkey/request/ErrorType"), accessFlags := 16409, slot := 1, constantValue := 0 }, { name := "ILLEGAL_ARGUMENT", type := (.object "com/example/driftkey/driftkey/request/ErrorType"), accessFlags := 16409, slot := 2, constantValue := 0 }, { name := "TOO_MANY_BUCKETS", type := (.object "com/example/driftkey/driftkey/request/ErrorType"), accessFlags := 16409, slot := 3, constantValue := 0 }, { name := "apiName", type := (.object "java/lang/String"), accessFlags := 18, slot := 3, constantValue := 0 }, { name := "$VALUES", type := (.array (.object "com/example/driftkey/driftkey/request/ErrorType")), accessFlags := 4122, slot := 4, constantValue := 0 }]
  methods := #[]
  instanceTypes := #[(.object "java/lang/String"), .int, .int, (.object "java/lang/String")]
  staticTypes := #[(.object "com/example/driftkey/driftkey/request/ErrorType"), (.object "com/example/driftkey/driftkey/request/ErrorType"), (.object "com/example/driftkey/driftkey/request/ErrorType"), (.object "com/example/driftkey/driftkey/request/ErrorType"), (.array (.object "com/example/driftkey/driftkey/request/ErrorType"))]
  resolved := Array.replicate 71 none
  statics := some 0 }

def pool7 : Array CpInfo := pool [(2, .class_ 4), (1, u "java/lang/CharSequence"), (42, .class_ 48), (0, u "java/lang/CharSequence$1CodePointIterator"), (10, .class_ 60), (0, u "java/lang/CharSequence$1CharIterator"), (5, .class_ 67), (0, u "java/lang/Object")] 63

/-- java/lang/CharSequence -/
def k7 : Class := { plain "java/lang/CharSequence" (some 0) with
  accessFlags := 1537
  interfaces := #[]
  cf := some (fileOf pool7 2 #[.nestMembers #[47, 59]] #[] 1537 66 #[] #[])
  fields := #[]
  methods := #[]
  instanceTypes := #[]
  staticTypes := #[]
  resolved := Array.replicate 131 none
  statics := none }

def pool8 : Array CpInfo := pool [(1, .class_ 2), (0, u "java/lang/constant/ConstantDesc"), (0, .class_ 4), (0, u "java/lang/Object")] 32

/-- java/lang/constant/ConstantDesc -/
def k8 : Class := { plain "java/lang/constant/ConstantDesc" (some 0) with
  accessFlags := 1537
  interfaces := #[]
  cf := some (fileOf pool8 1 #[] #[] 1537 3 #[] #[])
  fields := #[]
  methods := #[]
  instanceTypes := #[]
  staticTypes := #[]
  resolved := Array.replicate 37 none
  statics := none }

def pool9 : Array CpInfo := pool [(1, .methodref 2 3), (0, .class_ 4), (0, .nameAndType 5 6), (0, u "java/lang/Object"), (0, u "<init>"), (0, u "()V"), (0, .string 8), (0, u ""), (0, .fieldref 10 11), (0, .class_ 12), (0, .nameAndType 13 14), (0, u "java/lang/String"), (0, u "value"), (0, u "[B"), (0, .fieldref 10 16), (0, .nameAndType 17 18), (0, u "coder"), (0, u "B"), (2, u "hash"), (0, u "I"), (2, u "hashIsZero"), (0, u "Z"), (0, .methodref 10 28), (0, .nameAndType 5 29), (0, u "([CIILjava/lang/Void;)V"), (8, .fieldref 10 39), (0, .nameAndType 40 26), (0, u "COMPACT_STRINGS"), (1, .class_ 44), (1, u "java/lang/StringUTF16"), (0, u "compress"), (1, .methodref 42 48), (0, .nameAndType 49 50), (0, u "coderFromArrayLen"), (0, u "([BI)B"), (2, u "toBytes"), (53, .class_ 109), (1, u "java/lang/StringLatin1"), (67, .methodref 42 178), (0, .nameAndType 45 179), (0, u "([CII)[B"), (29, .methodref 10 210), (0, .nameAndType 5 211), (0, u "([BB)V"), (157, u "(C)Z"), (205, .class_ 576), (0, u "java/lang/CharSequence"), (22, u "CASE_INSENSITIVE_ORDER"), (0, u "Ljava/util/Comparator;"), (181, u "valueOf"), (0, u "(C)Ljava/lang/String;"), (226, u "([C)V"), (4, .methodref 107 1016), (0, .nameAndType 1017 369), (0, u "canEncode"), (0, .methodref 107 1019), (0, .nameAndType 53 1020), (0, u "(C)[B"), (80, u "serialPersistentFields"), (0, u "[Ljava/io/ObjectStreamField;"), (0, .class_ 1104), (0, u "java/lang/String$CaseInsensitiveComparator"), (1, .class_ 1107), (0, u "java/io/Serializable"), (0, .class_ 1109), (0, u "java/lang/Comparable"), (0, .class_ 1111), (0, u "java/lang/constant/Constable"), (0, .class_ 1113), (0, u "java/lang/constant/ConstantDesc"), (2, u "serialVersionUID"), (0, u "J"), (3, u "REPL"), (0, u "C"), (2, u "LATIN1"), (1, u "UTF16")] 323

def k9m0 : Method := { name := "<init>", desc := "()V", sig := { parameters := [], returnType := none }, accessFlags := 1, code := none }
def k9c1 : Code := { maxStack := 5, maxLocals := 2, code := jdk_42_method_3_code, exceptionTable := #[], attributes := #[] }
def k9m1 : Method := { name := "<init>", desc := "([C)V", sig := { parameters := [(.array .char)], returnType := none }, accessFlags := 1, code := some k9c1 }
def k9c2 : Code := { maxStack := 4, maxLocals := 1, code := jdk_42_method_139_code, exceptionTable := #[], attributes := #[] }
def k9m2 : Method := { name := "valueOf", desc := "(C)Ljava/lang/String;", sig := { parameters := [.char], returnType := some (.object "java/lang/String") }, accessFlags := 9, code := some k9c2 }
def k9c3 : Code := { maxStack := 4, maxLocals := 6, code := jdk_42_method_149_code, exceptionTable := #[], attributes := #[] }
def k9m3 : Method := { name := "<init>", desc := "([CIILjava/lang/Void;)V", sig := { parameters := [(.array .char), .int, .int, (.object "java/lang/Void")], returnType := none }, accessFlags := 2, code := some k9c3 }
def k9c4 : Code := { maxStack := 2, maxLocals := 3, code := jdk_42_method_151_code, exceptionTable := #[], attributes := #[] }
def k9m4 : Method := { name := "<init>", desc := "([BB)V", sig := { parameters := [(.array .byte), .byte], returnType := none }, accessFlags := 0, code := some k9c4 }
/-- java/lang/String -/
def k9 : Class := { plain "java/lang/String" (some 0) with
  accessFlags := 49
  interfaces := #[4, 3, 7, 2, 8]
  cf := some (fileOf pool9 10 #[.nestMembers #[1103]] #[{ accessFlags := 1, nameIndex := 5, descriptorIndex := 6, attributes := #[] }, { accessFlags := 1, nameIndex := 5, descriptorIndex := 1010, attributes := #[] }, { accessFlags := 9, nameIndex := 782, descriptorIndex := 783, attributes := #[] }, { accessFlags := 2, nameIndex := 5, descriptorIndex := 29, attributes := #[] }, { accessFlags := 0, nameIndex := 5, descriptorIndex := 211, attributes := #[] }] 49 2 #[1106, 1108, 575, 1110, 1112] #[{ accessFlags := 18, nameIndex := 13, descriptorIndex := 14, attributes := #[] }, { accessFlags := 18, nameIndex := 17, descriptorIndex := 18, attributes := #[] }, { accessFlags := 2, nameIndex := 21, descriptorIndex := 22, attributes := #[] }, { accessFlags := 2, nameIndex := 25, descriptorIndex := 26, attributes := #[] }, { accessFlags := 26, nameIndex := 1116, descriptorIndex := 1117, attributes := #[] }, { accessFlags := 24, nameIndex := 40, descriptorIndex := 26, attributes := #[] }, { accessFlags := 26, nameIndex := 1101, descriptorIndex := 1102, attributes := #[] }, { accessFlags := 26, nameIndex := 1121, descriptorIndex := 1122, attributes := #[] }, { accessFlags := 25, nameIndex := 599, descriptorIndex := 600, attributes := #[] }, { accessFlags := 24, nameIndex := 1125, descriptorIndex := 18, attributes := #[] }, { accessFlags := 24, nameIndex := 1127, descriptorIndex := 18, attributes := #[] }])
  fields := #[{ name := "value", type := (.array .byte), accessFlags := 18, slot := 0, constantValue := 0 }, { name := "coder", type := .byte, accessFlags := 18, slot := 1, constantValue := 0 }, { name := "hash", type := .int, accessFlags := 2, slot := 2, constantValue := 0 }, { name := "hashIsZero", type := .boolean, accessFlags := 2, slot := 3, constantValue := 0 }, { name := "serialVersionUID", type := .long, accessFlags := 26, slot := 0, constantValue := 0 }, { name := "COMPACT_STRINGS", type := .boolean, accessFlags := 24, slot := 1, constantValue := 0 }, { name := "serialPersistentFields", type := (.array (.object "java/io/ObjectStreamField")), accessFlags := 26, slot := 2, constantValue := 0 }, { name := "REPL", type := .char, accessFlags := 26, slot := 3, constantValue := 0 }, { name := "CASE_INSENSITIVE_ORDER", type := (.object "java/util/Comparator"), accessFlags := 25, slot := 4, constantValue := 0 }, { name := "LATIN1", type := .byte, accessFlags := 24, slot := 5, constantValue := 0 }, { name := "UTF16", type := .byte, accessFlags := 24, slot := 6, constantValue := 0 }]
  methods := #[k9m0, k9m1, k9m2, k9m3, k9m4]
  instanceTypes := #[(.array .byte), .byte, .int, .boolean]
  staticTypes := #[.long, .boolean, (.array (.object "java/io/ObjectStreamField")), .char, (.object "java/util/Comparator"), .byte, .byte]
  resolved := Array.replicate 1451 none
  statics := some 1 }

def pool10 : Array CpInfo := pool [(1, .methodref 2 3), (0, .class_ 4), (0, .nameAndType 5 6), (0, u "java/lang/Object"), (0, u "<init>"), (0, u "()V"), (0, .fieldref 8 9), (0, .class_ 10), (0, .nameAndType 11 12), (0, u "java/lang/Throwable"), (0, u "cause"), (0, u "Ljava/lang/Throwable;"), (0, .fieldref 8 14), (0, .nameAndType 15 16), (0, u "UNASSIGNED_STACK"), (0, u "[Ljava/lang/StackTraceElement;"), (0, .fieldref 8 18), (0, .nameAndType 19 16), (0, u "stackTrace"), (0, .fieldref 8 21), (0, .nameAndType 22 23), (0, u "SUPPRESSED_SENTINEL"), (0, u "Ljava/util/List;"), (0, .fieldref 8 25), (0, .nameAndType 26 23), (0, u "suppressedExceptions"), (0, .methodref 8 28), (0, .nameAndType 29 30), (0, u "fillInStackTrace"), (0, u "()Ljava/lang/Throwable;"), (0, .fieldref 8 32), (0, .nameAndType 33 34), (0, u "detailMessage"), (0, u "Ljava/lang/String;"), (58, .class_ 94), (0, u "java/lang/Throwable$WrappedPrintStream"), (6, .class_ 103), (1, u "java/lang/Throwable$PrintStreamOrWriter"), (61, u "$assertionsDisabled"), (0, u "Z"), (26, .class_ 194), (0, u "java/lang/Throwable$WrappedPrintWriter"), (3, .fieldref 8 199), (0, .nameAndType 200 201), (0, u "backtrace"), (0, u "Ljava/lang/Object;"), (0, .methodref 8 203), (0, .nameAndType 29 204), (0, u "(I)Ljava/lang/Throwable;"), (6, u "depth"), (0, u "I"), (10, u "(Ljava/lang/String;)V"), (45, .class_ 271), (1, u "java/lang/Throwable$SentinelHolder"), (32, u "EMPTY_THROWABLE_ARRAY"), (0, u "[Ljava/lang/Throwable;"), (12, .class_ 319), (0, u "java/io/Serializable"), (0, u "serialVersionUID"), (0, u "J"), (5, u "NULL_CAUSE_MESSAGE"), (0, u "SELF_SUPPRESSION_MESSAGE"), (0, u "CAUSE_CAPTION"), (0, u "SUPPRESSED_CAPTION")] 73

def k10c0 : Code := { maxStack := 2, maxLocals := 1, code := jdk_78_method_1_code, exceptionTable := #[], attributes := #[] }
def k10m0 : Method := { name := "<init>", desc := "()V", sig := { parameters := [], returnType := none }, accessFlags := 1, code := some k10c0 }
def k10c1 : Code := { maxStack := 2, maxLocals := 2, code := jdk_78_method_2_code, exceptionTable := #[], attributes := #[] }
def k10m1 : Method := { name := "<init>", desc := "(Ljava/lang/String;)V", sig := { parameters := [(.object "java/lang/String")], returnType := none }, accessFlags := 1, code := some k10c1 }
def k10c2 : Code := { maxStack := 2, maxLocals := 1, code := ⟨#[0x2a, 0xb4, 0x00, 0x11, 0xc7, 0x00, 0x0a, 0x2a, 0xb4, 0x00, 0xc6, 0xc6, 0x00, 0x10, 0x2a, 0x03, 0xb6, 0x00, 0xca, 0x57, 0x2a, 0xb2, 0x00, 0x0d, 0xb5, 0x00, 0x11, 0x2a, 0xb0]⟩, exceptionTable := #[], attributes := #[] }
def k10m2 : Method := { name := "fillInStackTrace", desc := "()Ljava/lang/Throwable;", sig := { parameters := [], returnType := some (.object "java/lang/Throwable") }, accessFlags := 33, code := some k10c2 }
def k10m3 : Method := { name := "fillInStackTrace", desc := "(I)Ljava/lang/Throwable;", sig := { parameters := [.int], returnType := some (.object "java/lang/Throwable") }, accessFlags := 258, code := none }
/-- java/lang/Throwable -/
def k10 : Class := { plain "java/lang/Throwable" (some 0) with
  accessFlags := 33
  interfaces := #[4]
  cf := some (fileOf pool10 8 #[.nestMembers #[193, 93, 101, 269]] #[{ accessFlags := 1, nameIndex := 5, descriptorIndex := 6, attributes := #[] }, { accessFlags := 1, nameIndex := 5, descriptorIndex := 223, attributes := #[] }, { accessFlags := 33, nameIndex := 29, descriptorIndex := 30, attributes := #[] }, { accessFlags := 258, nameIndex := 29, descriptorIndex := 204, attributes := #[] }] 33 2 #[318] #[{ accessFlags := 26, nameIndex := 320, descriptorIndex := 321, attributes := #[] }, { accessFlags := 130, nameIndex := 200, descriptorIndex := 201, attributes := #[] }, { accessFlags := 2, nameIndex := 33, descriptorIndex := 34, attributes := #[] }, { accessFlags := 26, nameIndex := 15, descriptorIndex := 16, attributes := #[] }, { accessFlags := 2, nameIndex := 11, descriptorIndex := 12, attributes := #[] }, { accessFlags := 2, nameIndex := 19, descriptorIndex := 16, attributes := #[] }, { accessFlags := 130, nameIndex := 211, descriptorIndex := 212, attributes := #[] }, { accessFlags := 26, nameIndex := 22, descriptorIndex := 23, attributes := #[] }, { accessFlags := 2, nameIndex := 26, descriptorIndex := 23, attributes := #[] }, { accessFlags := 26, nameIndex := 327, descriptorIndex := 34, attributes := #[] }, { accessFlags := 26, nameIndex := 328, descriptorIndex := 34, attributes := #[] }, { accessFlags := 26, nameIndex := 329, descriptorIndex := 34, attributes := #[] }, { accessFlags := 26, nameIndex := 330, descriptorIndex := 34, attributes := #[] }, { accessFlags := 26, nameIndex := 304, descriptorIndex := 305, attributes := #[] }, { accessFlags := 4120, nameIndex := 165, descriptorIndex := 166, attributes := #[] }])
  fields := #[{ name := "serialVersionUID", type := .long, accessFlags := 26, slot := 0, constantValue := 0 }, { name := "backtrace", type := (.object "java/lang/Object"), accessFlags := 130, slot := 0, constantValue := 0 }, { name := "detailMessage", type := (.object "java/lang/String"), accessFlags := 2, slot := 1, constantValue := 0 }, { name := "UNASSIGNED_STACK", type := (.array (.object "java/lang/StackTraceElement")), accessFlags := 26, slot := 1, constantValue := 0 }, { name := "cause", type := (.object "java/lang/Throwable"), accessFlags := 2, slot := 2, constantValue := 0 }, { name := "stackTrace", type := (.array (.object "java/lang/StackTraceElement")), accessFlags := 2, slot := 3, constantValue := 0 }, { name := "depth", type := .int, accessFlags := 130, slot := 4, constantValue := 0 }, { name := "SUPPRESSED_SENTINEL", type := (.object "java/util/List"), accessFlags := 26, slot := 2, constantValue := 0 }, { name := "suppressedExceptions", type := (.object "java/util/List"), accessFlags := 2, slot := 5, constantValue := 0 }, { name := "NULL_CAUSE_MESSAGE", type := (.object "java/lang/String"), accessFlags := 26, slot := 3, constantValue := 0 }, { name := "SELF_SUPPRESSION_MESSAGE", type := (.object "java/lang/String"), accessFlags := 26, slot := 4, constantValue := 0 }, { name := "CAUSE_CAPTION", type := (.object "java/lang/String"), accessFlags := 26, slot := 5, constantValue := 0 }, { name := "SUPPRESSED_CAPTION", type := (.object "java/lang/String"), accessFlags := 26, slot := 6, constantValue := 0 }, { name := "EMPTY_THROWABLE_ARRAY", type := (.array (.object "java/lang/Throwable")), accessFlags := 26, slot := 7, constantValue := 0 }, { name := "$assertionsDisabled", type := .boolean, accessFlags := 4120, slot := 8, constantValue := 0 }]
  methods := #[k10m0, k10m1, k10m2, k10m3]
  instanceTypes := #[(.object "java/lang/Object"), (.object "java/lang/String"), (.object "java/lang/Throwable"), (.array (.object "java/lang/StackTraceElement")), .int, (.object "java/util/List")]
  staticTypes := #[.long, (.array (.object "java/lang/StackTraceElement")), (.object "java/util/List"), (.object "java/lang/String"), (.object "java/lang/String"), (.object "java/lang/String"), (.object "java/lang/String"), (.array (.object "java/lang/Throwable")), .boolean]
  resolved := Array.replicate 404 none
  statics := some 2 }

def pool11 : Array CpInfo := pool [(2, .class_ 4), (1, u "java/lang/Throwable"), (0, u "<init>"), (0, u "()V"), (0, .methodref 2 8), (0, .nameAndType 5 9), (0, u "(Ljava/lang/String;)V"), (9, .class_ 20), (0, u "java/lang/Exception"), (0, u "serialVersionUID"), (0, u "J")] 17

def k11m0 : Method := { name := "<init>", desc := "()V", sig := { parameters := [], returnType := none }, accessFlags := 1, code := none }
def k11c1 : Code := { maxStack := 2, maxLocals := 2, code := jdk_59_method_2_code, exceptionTable := #[], attributes := #[] }
def k11m1 : Method := { name := "<init>", desc := "(Ljava/lang/String;)V", sig := { parameters := [(.object "java/lang/String")], returnType := none }, accessFlags := 1, code := some k11c1 }
/-- java/lang/Exception -/
def k11 : Class := { plain "java/lang/Exception" (some 10) with
  accessFlags := 33
  interfaces := #[]
  cf := some (fileOf pool11 19 #[] #[{ accessFlags := 1, nameIndex := 5, descriptorIndex := 6, attributes := #[] }, { accessFlags := 1, nameIndex := 5, descriptorIndex := 9, attributes := #[] }] 33 2 #[] #[{ accessFlags := 24, nameIndex := 21, descriptorIndex := 22, attributes := #[] }])
  fields := #[{ name := "serialVersionUID", type := .long, accessFlags := 24, slot := 0, constantValue := 0 }]
  methods := #[k11m0, k11m1]
  instanceTypes := #[(.object "java/lang/Object"), (.object "java/lang/String"), (.object "java/lang/Throwable"), (.array (.object "java/lang/StackTraceElement")), .int, (.object "java/util/List")]
  staticTypes := #[.long]
  resolved := Array.replicate 40 none
  statics := none }

def pool12 : Array CpInfo := pool [(1, .methodref 2 3), (0, .class_ 4), (0, .nameAndType 5 6), (0, u "java/lang/Exception"), (0, u "<init>"), (0, u "(Ljava/lang/String;)V"), (0, .fieldref 8 9), (0, .class_ 10), (0, .nameAndType 11 12), (0, u "com/example/driftkey/driftkey/request/RequestException"), (0, u "type"), (0, u "Lcom/example/driftkey/driftkey/request/ErrorType;"), (0, u "serialVersionUID"), (0, u "J"), (3, u "(Lcom/example/driftkey/driftkey/request/ErrorType;Ljava/lang/String;)V")] 5

def k12c0 : Code := { maxStack := 2, maxLocals := 3, code := prog_19_method_1_code, exceptionTable := #[], attributes := #[] }
def k12m0 : Method := { name := "<init>", desc := "(Lcom/example/driftkey/driftkey/request/ErrorType;Ljava/lang/String;)V", sig := { parameters := [(.object "com/example/driftkey/driftkey/request/ErrorType"), (.object "java/lang/String")], returnType := none }, accessFlags := 1, code := some k12c0 }
/-- com/example/driftkey/driftkey/request/RequestException -/
def k12 : Class := { plain "com/example/driftkey/driftkey/request/RequestException" (some 11) with
  accessFlags := 49
  interfaces := #[]
  cf := some (fileOf pool12 8 #[] #[{ accessFlags := 1, nameIndex := 5, descriptorIndex := 18, attributes := #[] }] 49 2 #[] #[{ accessFlags := 26, nameIndex := 13, descriptorIndex := 14, attributes := #[] }, { accessFlags := 18, nameIndex := 11, descriptorIndex := 12, attributes := #[] }])
  fields := #[{ name := "serialVersionUID", type := .long, accessFlags := 26, slot := 0, constantValue := 0 }, { name := "type", type := (.object "com/example/driftkey/driftkey/request/ErrorType"), accessFlags := 18, slot := 6, constantValue := 0 }]
  methods := #[k12m0]
  instanceTypes := #[(.object "java/lang/Object"), (.object "java/lang/String"), (.object "java/lang/Throwable"), (.array (.object "java/lang/StackTraceElement")), .int, (.object "java/util/List"), (.object "com/example/driftkey/driftkey/request/ErrorType")]
  staticTypes := #[.long]
  resolved := Array.replicate 24 none
  statics := none }

def pool13 : Array CpInfo := pool [(1, .methodref 2 3), (0, .class_ 4), (0, .nameAndType 5 6), (0, u "java/lang/Object"), (0, u "<init>"), (0, u "()V"), (0, .class_ 8), (0, u "java/lang/Record")] 13

def k13c0 : Code := { maxStack := 1, maxLocals := 1, code := jdk_30_method_1_code, exceptionTable := #[], attributes := #[] }
def k13m0 : Method := { name := "<init>", desc := "()V", sig := { parameters := [], returnType := none }, accessFlags := 4, code := some k13c0 }
/-- java/lang/Record -/
def k13 : Class := { plain "java/lang/Record" (some 0) with
  accessFlags := 1057
  interfaces := #[]
  cf := some (fileOf pool13 7 #[] #[{ accessFlags := 4, nameIndex := 5, descriptorIndex := 6, attributes := #[] }] 1057 2 #[] #[])
  fields := #[]
  methods := #[k13m0]
  instanceTypes := #[]
  staticTypes := #[]
  resolved := Array.replicate 22 none
  statics := none }

def pool14 : Array CpInfo := pool [(1, .methodref 2 3), (0, .class_ 4), (0, .nameAndType 5 6), (0, u "java/lang/Record"), (0, u "<init>"), (0, u "()V"), (0, .fieldref 8 9), (0, .class_ 10), (0, .nameAndType 11 12), (0, u "com/example/driftkey/driftkey/storage/WriteResult"), (0, u "outcome"), (0, u "Lcom/example/driftkey/driftkey/storage/WriteResult$Outcome;"), (0, .fieldref 8 14), (0, .nameAndType 15 16), (0, u "version"), (0, u "J"), (0, .fieldref 8 18), (0, .nameAndType 19 20), (0, u "refusal"), (0, u "Lcom/example/driftkey/driftkey/request/RequestException;"), (0, .methodref 8 22), (0, .nameAndType 5 23), (0, u "(Lcom/example/driftkey/driftkey/storage/WriteResult$Outcome;JLcom/example/driftkey/driftkey/request/RequestException;)V"), (0, .fieldref 25 26), (0, .class_ 27), (0, .nameAndType 28 12), (0, u "com/example/driftkey/driftkey/storage/WriteResult$Outcome"), (0, u "REFUSED"), (16, u "refused"), (0, u "(Lcom/example/driftkey/driftkey/request/RequestException;)Lcom/example/driftkey/driftkey/storage/WriteResult;"), (3, u "()Lcom/example/driftkey/driftkey/storage/WriteResult$Outcome;"), (0, u "()J"), (0, u "()Lcom/example/driftkey/driftkey/request/RequestException;")] 24

def k14c0 : Code := { maxStack := 3, maxLocals := 5, code := prog_25_method_2_code, exceptionTable := #[], attributes := #[] }
def k14m0 : Method := { name := "<init>", desc := "(Lcom/example/driftkey/driftkey/storage/WriteResult$Outcome;JLcom/example/driftkey/driftkey/request/RequestException;)V", sig := { parameters := [(.object "com/example/driftkey/driftkey/storage/WriteResult$Outcome"), .long, (.object "com/example/driftkey/driftkey/request/RequestException")], returnType := none }, accessFlags := 1, code := some k14c0 }
def k14c1 : Code := { maxStack := 6, maxLocals := 1, code := prog_25_method_3_code, exceptionTable := #[], attributes := #[] }
def k14m1 : Method := { name := "refused", desc := "(Lcom/example/driftkey/driftkey/request/RequestException;)Lcom/example/driftkey/driftkey/storage/WriteResult;", sig := { parameters := [(.object "com/example/driftkey/driftkey/request/RequestException")], returnType := some (.object "com/example/driftkey/driftkey/storage/WriteResult") }, accessFlags := 8, code := some k14c1 }
def k14c2 : Code := { maxStack := 1, maxLocals := 1, code := prog_25_method_7_code, exceptionTable := #[], attributes := #[] }
def k14m2 : Method := { name := "outcome", desc := "()Lcom/example/driftkey/driftkey/storage/WriteResult$Outcome;", sig := { parameters := [], returnType := some (.object "com/example/driftkey/driftkey/storage/WriteResult$Outcome") }, accessFlags := 1, code := some k14c2 }
def k14c3 : Code := { maxStack := 2, maxLocals := 1, code := prog_25_method_8_code, exceptionTable := #[], attributes := #[] }
def k14m3 : Method := { name := "version", desc := "()J", sig := { parameters := [], returnType := some .long }, accessFlags := 1, code := some k14c3 }
def k14c4 : Code := { maxStack := 1, maxLocals := 1, code := prog_25_method_9_code, exceptionTable := #[], attributes := #[] }
def k14m4 : Method := { name := "refusal", desc := "()Lcom/example/driftkey/driftkey/request/RequestException;", sig := { parameters := [], returnType := some (.object "com/example/driftkey/driftkey/request/RequestException") }, accessFlags := 1, code := some k14c4 }
/-- com/example/driftkey/driftkey/storage/WriteResult -/
def k14 : Class := { plain "com/example/driftkey/driftkey/storage/WriteResult" (some 13) with
  accessFlags := 49
  interfaces := #[]
  cf := some (fileOf pool14 8 #[.nestMembers #[25]] #[{ accessFlags := 1, nameIndex := 5, descriptorIndex := 23, attributes := #[] }, { accessFlags := 8, nameIndex := 45, descriptorIndex := 46, attributes := #[] }, { accessFlags := 1, nameIndex := 11, descriptorIndex := 50, attributes := #[] }, { accessFlags := 1, nameIndex := 15, descriptorIndex := 51, attributes := #[] }, { accessFlags := 1, nameIndex := 19, descriptorIndex := 52, attributes := #[] }] 49 2 #[] #[{ accessFlags := 18, nameIndex := 11, descriptorIndex := 12, attributes := #[] }, { accessFlags := 18, nameIndex := 15, descriptorIndex := 16, attributes := #[] }, { accessFlags := 18, nameIndex := 19, descriptorIndex := 20, attributes := #[] }])
  fields := #[{ name := "outcome", type := (.object "com/example/driftkey/driftkey/storage/WriteResult$Outcome"), accessFlags := 18, slot := 0, constantValue := 0 }, { name := "version", type := .long, accessFlags := 18, slot := 1, constantValue := 0 }, { name := "refusal", type := (.object "com/example/driftkey/driftkey/request/RequestException"), accessFlags := 18, slot := 2, constantValue := 0 }]
  methods := #[k14m0, k14m1, k14m2, k14m3, k14m4]
  instanceTypes := #[(.object "com/example/driftkey/driftkey/storage/WriteResult$Outcome"), .long, (.object "com/example/driftkey/driftkey/request/RequestException")]
  staticTypes := #[]
  resolved := Array.replicate 77 none
  statics := none }

def pool15 : Array CpInfo := pool [(1, .class_ 2), (0, u "com/example/driftkey/driftkey/storage/WriteResult$Outcome"), (2, u "CREATED"), (0, u "Lcom/example/driftkey/driftkey/storage/WriteResult$Outcome;"), (2, u "UPDATED"), (2, u "DELETED"), (2, u "NOT_FOUND"), (2, u "REFUSED"), (2, u "COLLECTION_NOT_FOUND"), (2, u "$VALUES"), (0, u "[Lcom/example/driftkey/driftkey/storage/WriteResult$Outcome;"), (6, .class_ 34), (1, u "java/lang/Enum"), (29, .class_ 65), (0, u "com/example/driftkey/driftkey/storage/WriteResult")] 2

/-- com/example/driftkey/driftkey/storage/WriteResult$Outcome -/
def k15 : Class := { plain "com/example/driftkey/driftkey/storage/WriteResult$Outcome" (some 5) with
  accessFlags := 16433
  interfaces := #[]
  cf := some (fileOf pool15 1 #[.nestHost 64] #[] 16433 32 #[] #[{ accessFlags := 16409, nameIndex := 5, descriptorIndex := 6, attributes := #[] }, { accessFlags := 16409, nameIndex := 9, descriptorIndex := 6, attributes := #[] }, { accessFlags := 16409, nameIndex := 12, descriptorIndex := 6, attributes := #[] }, { accessFlags := 16409, nameIndex := 15, descriptorIndex := 6, attributes := #[] }, { accessFlags := 16409, nameIndex := 18, descriptorIndex := 6, attributes := #[] }, { accessFlags := 16409, nameIndex := 21, descriptorIndex := 6, attributes := #[] }, { accessFlags := 4122, nameIndex := 24, descriptorIndex := 25, attributes := #[] }])
  fields := #[{ name := "CREATED", type := (.object "com/example/driftkey/driftkey/storage/WriteResult$Outcome"), accessFlags := 16409, slot := 0, constantValue := 0 }, { name := "UPDATED", type := (.object "com/example/driftkey/driftkey/storage/WriteResult$Outcome"), accessFlags := 16409, slot := 1, constantValue := 0 }, { name := "DELETED", type := (.object "com/example/driftkey/driftkey/storage/WriteResult$Outcome"), accessFlags := 16409, slot := 2, constantValue := 0 }, { name := "NOT_FOUND", type := (.object "com/example/driftkey/driftkey/storage/WriteResult$Outcome"), accessFlags := 16409, slot := 3, constantValue := 0 }, { name := "REFUSED", type := (.object "com/example/driftkey/driftkey/storage/WriteResult$Outcome"), accessFlags := 16409, slot := 4, constantValue := 0 }, { name := "COLLECTION_NOT_FOUND", type := (.object "com/example/driftkey/driftkey/storage/WriteResult$Outcome"), accessFlags := 16409, slot := 5, constantValue := 0 }, { name := "$VALUES", type := (.array (.object "com/example/driftkey/driftkey/storage/WriteResult$Outcome")), accessFlags := 4122, slot := 6, constantValue := 0 }]
  methods := #[]
  instanceTypes := #[(.object "java/lang/String"), .int, .int]
  staticTypes := #[(.object "com/example/driftkey/driftkey/storage/WriteResult$Outcome"), (.object "com/example/driftkey/driftkey/storage/WriteResult$Outcome"), (.object "com/example/driftkey/driftkey/storage/WriteResult$Outcome"), (.object "com/example/driftkey/driftkey/storage/WriteResult$Outcome"), (.object "com/example/driftkey/driftkey/storage/WriteResult$Outcome"), (.object "com/example/driftkey/driftkey/storage/WriteResult$Outcome"), (.array (.object "com/example/driftkey/driftkey/storage/WriteResult$Outcome"))]
  resolved := Array.replicate 68 none
  statics := some 3 }

def pool16 : Array CpInfo := pool [(6, .class_ 8), (1, u "java/lang/Object"), (0, u "<init>"), (0, u "()V"), (1, .class_ 14), (1, u "java/lang/StringUTF16"), (31, u "$assertionsDisabled"), (0, u "Z"), (13, u "HI_BYTE_SHIFT"), (0, u "I"), (2, u "LO_BYTE_SHIFT"), (49, .methodref 12 116), (0, .nameAndType 117 118), (0, u "compress"), (0, u "([CI[BII)I"), (3, u "([CII)[B"), (138, u "coderFromArrayLen"), (0, u "([BI)B"), (106, .class_ 371), (1, u "java/lang/StringUTF16$LinesSpliterator"), (58, u "MAX_LENGTH"), (196, .class_ 628), (0, u "java/lang/StringUTF16$CodePointsSpliterator"), (0, .class_ 630), (0, u "java/lang/StringUTF16$CharsSpliterator")] 4

def k16m0 : Method := { name := "<init>", desc := "()V", sig := { parameters := [], returnType := none }, accessFlags := 0, code := none }
def k16c1 : Code := { maxStack := 2, maxLocals := 2, code := jdk_52_method_15_code, exceptionTable := #[], attributes := #[] }
def k16m1 : Method := { name := "coderFromArrayLen", desc := "([BI)B", sig := { parameters := [(.array .byte), .int], returnType := some .byte }, accessFlags := 8, code := some k16c1 }
def k16c2 : Code := { maxStack := 5, maxLocals := 6, code := jdk_52_method_16_code, exceptionTable := #[], attributes := #[] }
def k16m2 : Method := { name := "compress", desc := "([CII)[B", sig := { parameters := [(.array .char), .int, .int], returnType := some (.array .byte) }, accessFlags := 9, code := some k16c2 }
def k16c3 : Code := { maxStack := 3, maxLocals := 7, code := jdk_52_method_21_code, exceptionTable := #[], attributes := #[] }
def k16m3 : Method := { name := "compress", desc := "([CI[BII)I", sig := { parameters := [(.array .char), .int, (.array .byte), .int, .int], returnType := some .int }, accessFlags := 9, code := some k16c3 }
/-- java/lang/StringUTF16 -/
def k16 : Class := { plain "java/lang/StringUTF16" (some 0) with
  accessFlags := 48
  interfaces := #[]
  cf := some (fileOf pool16 12 #[.nestMembers #[627, 629, 369]] #[{ accessFlags := 0, nameIndex := 9, descriptorIndex := 10, attributes := #[] }, { accessFlags := 8, nameIndex := 261, descriptorIndex := 262, attributes := #[] }, { accessFlags := 9, nameIndex := 117, descriptorIndex := 122, attributes := #[] }, { accessFlags := 9, nameIndex := 117, descriptorIndex := 118, attributes := #[] }] 48 6 #[] #[{ accessFlags := 26, nameIndex := 61, descriptorIndex := 62, attributes := #[] }, { accessFlags := 26, nameIndex := 65, descriptorIndex := 62, attributes := #[] }, { accessFlags := 24, nameIndex := 430, descriptorIndex := 62, attributes := #[] }, { accessFlags := 4120, nameIndex := 46, descriptorIndex := 47, attributes := #[] }])
  fields := #[{ name := "HI_BYTE_SHIFT", type := .int, accessFlags := 26, slot := 0, constantValue := 0 }, { name := "LO_BYTE_SHIFT", type := .int, accessFlags := 26, slot := 1, constantValue := 0 }, { name := "MAX_LENGTH", type := .int, accessFlags := 24, slot := 2, constantValue := 0 }, { name := "$assertionsDisabled", type := .boolean, accessFlags := 4120, slot := 3, constantValue := 0 }]
  methods := #[k16m0, k16m1, k16m2, k16m3]
  instanceTypes := #[]
  staticTypes := #[.int, .int, .int, .boolean]
  resolved := Array.replicate 635 none
  statics := none }

def pool17 : Array CpInfo := pool [(4, .class_ 6), (1, u "java/lang/Object"), (0, u "<init>"), (0, u "()V"), (5, .class_ 16), (1, u "java/lang/StringLatin1"), (73, u "canEncode"), (14, u "(C)Z"), (15, u "$assertionsDisabled"), (0, u "Z"), (98, .class_ 223), (1, u "java/lang/StringLatin1$LinesSpliterator"), (156, u "toBytes"), (1, u "(C)[B"), (7, .class_ 391), (0, u "java/lang/StringLatin1$CharsSpliterator")] 3

def k17m0 : Method := { name := "<init>", desc := "()V", sig := { parameters := [], returnType := none }, accessFlags := 0, code := none }
def k17c1 : Code := { maxStack := 2, maxLocals := 1, code := jdk_43_method_3_code, exceptionTable := #[], attributes := #[] }
def k17m1 : Method := { name := "canEncode", desc := "(C)Z", sig := { parameters := [.char], returnType := some .boolean }, accessFlags := 9, code := some k17c1 }
def k17c2 : Code := { maxStack := 4, maxLocals := 1, code := jdk_43_method_46_code, exceptionTable := #[], attributes := #[] }
def k17m2 : Method := { name := "toBytes", desc := "(C)[B", sig := { parameters := [.char], returnType := some (.array .byte) }, accessFlags := 9, code := some k17c2 }
/-- java/lang/StringLatin1 -/
def k17 : Class := { plain "java/lang/StringLatin1" (some 0) with
  accessFlags := 48
  interfaces := #[]
  cf := some (fileOf pool17 14 #[.nestMembers #[390, 221]] #[{ accessFlags := 0, nameIndex := 7, descriptorIndex := 8, attributes := #[] }, { accessFlags := 9, nameIndex := 90, descriptorIndex := 105, attributes := #[] }, { accessFlags := 9, nameIndex := 380, descriptorIndex := 382, attributes := #[] }] 48 4 #[] #[{ accessFlags := 4120, nameIndex := 121, descriptorIndex := 122, attributes := #[] }])
  fields := #[{ name := "$assertionsDisabled", type := .boolean, accessFlags := 4120, slot := 0, constantValue := 0 }]
  methods := #[k17m0, k17m1, k17m2]
  instanceTypes := #[]
  staticTypes := #[.boolean]
  resolved := Array.replicate 395 none
  statics := none }

def pool18 : Array CpInfo := pool [(2, .class_ 4), (1, u "java/lang/Object"), (0, u "<init>"), (0, u "()V"), (12, .class_ 20), (0, u "java/util/Collections"), (63, u "r"), (0, u "Ljava/util/Random;"), (80, .class_ 167), (0, u "java/util/Collections$UnmodifiableCollection"), (6, .class_ 175), (0, u "java/util/Collections$UnmodifiableSequencedCollection"), (6, .class_ 183), (0, u "java/util/Collections$UnmodifiableSet"), (6, .class_ 191), (0, u "java/util/Collections$UnmodifiableSequencedSet"), (6, .class_ 199), (0, u "java/util/Collections$UnmodifiableSortedSet"), (6, .class_ 207), (0, u "java/util/Collections$UnmodifiableNavigableSet"), (4, .class_ 213), (0, u "java/util/Collections$UnmodifiableList"), (1, .class_ 216), (0, u "java/util/Collections$UnmodifiableRandomAccessList"), (6, .class_ 224), (0, u "java/util/Collections$UnmodifiableMap"), (6, .class_ 232), (0, u "java/util/Collections$UnmodifiableSequencedMap"), (4, .class_ 238), (0, u "java/util/Collections$UnmodifiableSortedMap"), (6, .class_ 246), (0, u "java/util/Collections$UnmodifiableNavigableMap"), (3, .class_ 251), (0, u "java/util/Collections$SynchronizedCollection"), (4, .class_ 257), (0, u "java/util/Collections$SynchronizedSet"), (4, .class_ 263), (0, u "java/util/Collections$SynchronizedSortedSet"), (1, .class_ 266), (0, u "java/util/Collections$SynchronizedNavigableSet"), (1, .class_ 269), (0, u "java/util/Collections$SynchronizedRandomAccessList"), (1, .class_ 272), (0, u "java/util/Collections$SynchronizedList"), (5, .class_ 279), (0, u "java/util/Collections$SynchronizedMap"), (1, .class_ 282), (0, u "java/util/Collections$SynchronizedSortedMap"), (1, .class_ 285), (0, u "java/util/Collections$SynchronizedNavigableMap"), (1, .class_ 288), (0, u "java/util/Collections$CheckedCollection"), (11, .class_ 301), (0, u "java/util/Collections$CheckedQueue"), (3, .class_ 306), (0, u "java/util/Collections$CheckedSet"), (3, .class_ 311), (0, u "java/util/Collections$CheckedSortedSet"), (3, .class_ 316), (0, u "java/util/Collections$CheckedNavigableSet"), (3, .class_ 321), (0, u "java/util/Collections$CheckedRandomAccessList"), (3, .class_ 326), (0, u "java/util/Collections$CheckedList"), (1, .class_ 329), (0, u "java/util/Collections$CheckedMap"), (3, .class_ 334), (0, u "java/util/Collections$CheckedSortedMap"), (3, .class_ 339), (0, u "java/util/Collections$CheckedNavigableMap"), (4, .class_ 346), (1, u "java/util/Collections$EmptyIterator"), (3, .class_ 352), (1, u "java/util/Collections$EmptyListIterator"), (2, .class_ 357), (1, u "java/util/Collections$EmptyEnumeration"), (4, u "EMPTY_SET"), (0, u "Ljava/util/Set;"), (6, u "EMPTY_LIST"), (0, u "Ljava/util/List;"), (2, u "EMPTY_MAP"), (0, u "Ljava/util/Map;"), (4, .class_ 381), (0, u "java/util/Collections$SingletonSet"), (2, .class_ 385), (0, u "java/util/Collections$1"), (1, .class_ 388), (0, u "java/util/Collections$2"), (1, .class_ 391), (0, u "java/util/Collections$SingletonList"), (1, .class_ 394), (0, u "java/util/Collections$SingletonMap"), (22, .class_ 418), (0, u "java/util/Collections$CopiesList"), (4, .class_ 425), (1, u "java/util/Collections$ReverseComparator"), (8, .class_ 435), (0, u "java/util/Collections$ReverseComparator2"), (6, .class_ 443), (0, u "java/util/Collections$3"), (25, .class_ 470), (0, u "java/util/Collections$SetFromMap"), (2, .class_ 474), (0, u "java/util/Collections$SequencedSetFromMap"), (3, .class_ 479), (0, u "java/util/Collections$AsLIFOQueue"), (11, .class_ 492), (0, u "java/util/Collections$EmptySet"), (1, .class_ 495), (0, u "java/util/Collections$EmptyList"), (1, .class_ 498), (0, u "java/util/Collections$EmptyMap"), (1, u "BINARYSEARCH_THRESHOLD"), (0, u "I"), (2, u "REVERSE_THRESHOLD"), (1, u "SHUFFLE_THRESHOLD"), (1, u "FILL_THRESHOLD"), (1, u "ROTATE_THRESHOLD"), (1, u "COPY_THRESHOLD"), (1, u "REPLACEALL_THRESHOLD"), (1, u "INDEXOFSUBLIST_THRESHOLD"), (333, .class_ 851), (0, u "java/util/Collections$CheckedMap$CheckedEntrySet"), (0, .class_ 853), (0, u "java/util/Collections$CheckedMap$CheckedEntrySet$CheckedEntry"), (0, .class_ 855), (0, u "java/util/Collections$CheckedMap$CheckedEntrySet$1"), (0, .class_ 857), (0, u "java/util/Collections$CheckedList$1"), (0, .class_ 859), (0, u "java/util/Collections$CheckedCollection$1"), (0, .class_ 861), (0, u "java/util/Collections$UnmodifiableNavigableMap$EmptyNavigableMap"), (0, .class_ 863), (0, u "java/util/Collections$UnmodifiableMap$UnmodifiableEntrySet"), (0, .class_ 865), (0, u "java/util/Collections$UnmodifiableMap$UnmodifiableEntrySet$UnmodifiableEntry"), (0, .class_ 867), (0, u "java/util/Collections$UnmodifiableMap$UnmodifiableEntrySet$UnmodifiableEntrySetSpliterator"), (0, .class_ 869), (0, u "java/util/Collections$UnmodifiableMap$UnmodifiableEntrySet$1"), (0, .class_ 871), (0, u "java/util/Collections$UnmodifiableList$1"), (0, .class_ 873), (0, u "java/util/Collections$UnmodifiableNavigableSet$EmptyNavigableSet"), (0, .class_ 875), (0, u "java/util/Collections$UnmodifiableCollection$1")] 57

def k18m0 : Method := { name := "<init>", desc := "()V", sig := { parameters := [], returnType := none }, accessFlags := 2, code := none }
/-- java/util/Collections -/
def k18 : Class := { plain "java/util/Collections" (some 0) with
  accessFlags := 33
  interfaces := #[]
  cf := some (fileOf pool18 19 #[.nestMembers #[478, 473, 469, 434, 423, 417, 393, 390, 380, 497, 494, 491, 355, 350, 344, 338, 333, 328, 850, 852, 854, 320, 325, 856, 315, 310, 305, 300, 287, 858, 284, 281, 278, 268, 271, 265, 262, 256, 250, 245, 860, 237, 231, 223, 862, 864, 866, 868, 215, 212, 870, 206, 872, 198, 190, 182, 174, 166, 874, 442, 387, 384]] #[{ accessFlags := 2, nameIndex := 5, descriptorIndex := 6, attributes := #[] }] 33 2 #[] #[{ accessFlags := 26, nameIndex := 500, descriptorIndex := 501, attributes := #[] }, { accessFlags := 26, nameIndex := 504, descriptorIndex := 501, attributes := #[] }, { accessFlags := 26, nameIndex := 506, descriptorIndex := 501, attributes := #[] }, { accessFlags := 26, nameIndex := 508, descriptorIndex := 501, attributes := #[] }, { accessFlags := 26, nameIndex := 510, descriptorIndex := 501, attributes := #[] }, { accessFlags := 26, nameIndex := 512, descriptorIndex := 501, attributes := #[] }, { accessFlags := 26, nameIndex := 514, descriptorIndex := 501, attributes := #[] }, { accessFlags := 26, nameIndex := 516, descriptorIndex := 501, attributes := #[] }, { accessFlags := 10, nameIndex := 84, descriptorIndex := 85, attributes := #[] }, { accessFlags := 25, nameIndex := 362, descriptorIndex := 363, attributes := #[] }, { accessFlags := 25, nameIndex := 370, descriptorIndex := 371, attributes := #[] }, { accessFlags := 25, nameIndex := 374, descriptorIndex := 375, attributes := #[] }])
  fields := #[{ name := "BINARYSEARCH_THRESHOLD", type := .int, accessFlags := 26, slot := 0, constantValue := 0 }, { name := "REVERSE_THRESHOLD", type := .int, accessFlags := 26, slot := 1, constantValue := 0 }, { name := "SHUFFLE_THRESHOLD", type := .int, accessFlags := 26, slot := 2, constantValue := 0 }, { name := "FILL_THRESHOLD", type := .int, accessFlags := 26, slot := 3, constantValue := 0 }, { name := "ROTATE_THRESHOLD", type := .int, accessFlags := 26, slot := 4, constantValue := 0 }, { name := "COPY_THRESHOLD", type := .int, accessFlags := 26, slot := 5, constantValue := 0 }, { name := "REPLACEALL_THRESHOLD", type := .int, accessFlags := 26, slot := 6, constantValue := 0 }, { name := "INDEXOFSUBLIST_THRESHOLD", type := .int, accessFlags := 26, slot := 7, constantValue := 0 }, { name := "r", type := (.object "java/util/Random"), accessFlags := 10, slot := 8, constantValue := 0 }, { name := "EMPTY_SET", type := (.object "java/util/Set"), accessFlags := 25, slot := 9, constantValue := 0 }, { name := "EMPTY_LIST", type := (.object "java/util/List"), accessFlags := 25, slot := 10, constantValue := 0 }, { name := "EMPTY_MAP", type := (.object "java/util/Map"), accessFlags := 25, slot := 11, constantValue := 0 }]
  methods := #[k18m0]
  instanceTypes := #[]
  staticTypes := #[.int, .int, .int, .int, .int, .int, .int, .int, (.object "java/util/Random"), (.object "java/util/Set"), (.object "java/util/List"), (.object "java/util/Map")]
  resolved := Array.replicate 933 none
  statics := some 4 }

def pool19 : Array CpInfo := pool [(2, .class_ 4), (1, u "java/lang/Object"), (0, u "<init>"), (0, u "()V"), (17, .class_ 26), (1, u "jdk/internal/util/Preconditions"), (28, .class_ 56), (0, u "jdk/internal/util/Preconditions$4"), (57, .class_ 115), (0, u "jdk/internal/util/Preconditions$1"), (7, u "SIOOBE_FORMATTER"), (0, u "Ljava/util/function/BiFunction;"), (0, .class_ 126), (0, u "jdk/internal/util/Preconditions$2"), (3, u "AIOOBE_FORMATTER"), (0, .class_ 132), (0, u "jdk/internal/util/Preconditions$3"), (3, u "IOOBE_FORMATTER")] 57

def k19m0 : Method := { name := "<init>", desc := "()V", sig := { parameters := [], returnType := none }, accessFlags := 1, code := none }
/-- jdk/internal/util/Preconditions -/
def k19 : Class := { plain "jdk/internal/util/Preconditions" (some 0) with
  accessFlags := 33
  interfaces := #[]
  cf := some (fileOf pool19 24 #[.nestMembers #[55, 131, 125, 114]] #[{ accessFlags := 1, nameIndex := 5, descriptorIndex := 6, attributes := #[] }] 33 2 #[] #[{ accessFlags := 25, nameIndex := 123, descriptorIndex := 124, attributes := #[] }, { accessFlags := 25, nameIndex := 130, descriptorIndex := 124, attributes := #[] }, { accessFlags := 25, nameIndex := 136, descriptorIndex := 124, attributes := #[] }])
  fields := #[{ name := "SIOOBE_FORMATTER", type := (.object "java/util/function/BiFunction"), accessFlags := 25, slot := 0, constantValue := 0 }, { name := "AIOOBE_FORMATTER", type := (.object "java/util/function/BiFunction"), accessFlags := 25, slot := 1, constantValue := 0 }, { name := "IOOBE_FORMATTER", type := (.object "java/util/function/BiFunction"), accessFlags := 25, slot := 2, constantValue := 0 }]
  methods := #[k19m0]
  instanceTypes := #[]
  staticTypes := #[(.object "java/util/function/BiFunction"), (.object "java/util/function/BiFunction"), (.object "java/util/function/BiFunction")]
  resolved := Array.replicate 194 none
  statics := some 5 }

def pool20 : Array CpInfo := pool [(9, u "<init>"), (6, .class_ 18), (1, u "java/lang/Object"), (0, u "()V"), (1, .class_ 23), (1, u "jdk/internal/util/ArraysSupport"), (0, u "LOG2_ARRAY_LONG_INDEX_SCALE"), (0, u "I"), (2, u "U"), (0, u "Ljdk/internal/misc/Unsafe;"), (8, u "BIG_ENDIAN"), (0, u "Z"), (8, u "LOG2_BYTE_BIT_SIZE"), (4, u "LOG2_ARRAY_INT_INDEX_SCALE"), (54, u "JLA"), (0, u "Ljdk/internal/access/JavaLangAccess;"), (11, u "LOG2_ARRAY_BOOLEAN_INDEX_SCALE"), (9, u "LOG2_ARRAY_BYTE_INDEX_SCALE"), (5, u "LOG2_ARRAY_CHAR_INDEX_SCALE"), (5, u "LOG2_ARRAY_SHORT_INDEX_SCALE"), (18, u "LOG2_ARRAY_FLOAT_INDEX_SCALE"), (24, u "LOG2_ARRAY_DOUBLE_INDEX_SCALE"), (89, u "T_BOOLEAN"), (2, u "T_CHAR"), (1, u "T_FLOAT"), (1, u "T_DOUBLE"), (1, u "T_BYTE"), (1, u "T_SHORT"), (1, u "T_INT"), (1, u "T_LONG"), (1, u "SOFT_MAX_ARRAY_LENGTH")] 83

def k20m0 : Method := { name := "<init>", desc := "()V", sig := { parameters := [], returnType := none }, accessFlags := 2, code := none }
/-- jdk/internal/util/ArraysSupport -/
def k20 : Class := { plain "jdk/internal/util/ArraysSupport" (some 0) with
  accessFlags := 33
  interfaces := #[]
  cf := some (fileOf pool20 21 #[] #[{ accessFlags := 2, nameIndex := 9, descriptorIndex := 19, attributes := #[] }] 33 16 #[] #[{ accessFlags := 24, nameIndex := 28, descriptorIndex := 29, attributes := #[] }, { accessFlags := 26, nameIndex := 38, descriptorIndex := 39, attributes := #[] }, { accessFlags := 25, nameIndex := 121, descriptorIndex := 25, attributes := #[] }, { accessFlags := 25, nameIndex := 131, descriptorIndex := 25, attributes := #[] }, { accessFlags := 25, nameIndex := 137, descriptorIndex := 25, attributes := #[] }, { accessFlags := 25, nameIndex := 143, descriptorIndex := 25, attributes := #[] }, { accessFlags := 25, nameIndex := 53, descriptorIndex := 25, attributes := #[] }, { accessFlags := 25, nameIndex := 24, descriptorIndex := 25, attributes := #[] }, { accessFlags := 25, nameIndex := 162, descriptorIndex := 25, attributes := #[] }, { accessFlags := 25, nameIndex := 187, descriptorIndex := 25, attributes := #[] }, { accessFlags := 26, nameIndex := 48, descriptorIndex := 25, attributes := #[] }, { accessFlags := 25, nameIndex := 277, descriptorIndex := 25, attributes := #[] }, { accessFlags := 25, nameIndex := 280, descriptorIndex := 25, attributes := #[] }, { accessFlags := 25, nameIndex := 282, descriptorIndex := 25, attributes := #[] }, { accessFlags := 25, nameIndex := 284, descriptorIndex := 25, attributes := #[] }, { accessFlags := 25, nameIndex := 286, descriptorIndex := 25, attributes := #[] }, { accessFlags := 25, nameIndex := 288, descriptorIndex := 25, attributes := #[] }, { accessFlags := 25, nameIndex := 290, descriptorIndex := 25, attributes := #[] }, { accessFlags := 25, nameIndex := 292, descriptorIndex := 25, attributes := #[] }, { accessFlags := 26, nameIndex := 108, descriptorIndex := 109, attributes := #[] }, { accessFlags := 25, nameIndex := 294, descriptorIndex := 25, attributes := #[] }])
  fields := #[{ name := "U", type := (.object "jdk/internal/misc/Unsafe"), accessFlags := 24, slot := 0, constantValue := 0 }, { name := "BIG_ENDIAN", type := .boolean, accessFlags := 26, slot := 1, constantValue := 0 }, { name := "LOG2_ARRAY_BOOLEAN_INDEX_SCALE", type := .int, accessFlags := 25, slot := 2, constantValue := 0 }, { name := "LOG2_ARRAY_BYTE_INDEX_SCALE", type := .int, accessFlags := 25, slot := 3, constantValue := 0 }, { name := "LOG2_ARRAY_CHAR_INDEX_SCALE", type := .int, accessFlags := 25, slot := 4, constantValue := 0 }, { name := "LOG2_ARRAY_SHORT_INDEX_SCALE", type := .int, accessFlags := 25, slot := 5, constantValue := 0 }, { name := "LOG2_ARRAY_INT_INDEX_SCALE", type := .int, accessFlags := 25, slot := 6, constantValue := 0 }, { name := "LOG2_ARRAY_LONG_INDEX_SCALE", type := .int, accessFlags := 25, slot := 7, constantValue := 0 }, { name := "LOG2_ARRAY_FLOAT_INDEX_SCALE", type := .int, accessFlags := 25, slot := 8, constantValue := 0 }, { name := "LOG2_ARRAY_DOUBLE_INDEX_SCALE", type := .int, accessFlags := 25, slot := 9, constantValue := 0 }, { name := "LOG2_BYTE_BIT_SIZE", type := .int, accessFlags := 26, slot := 10, constantValue := 0 }, { name := "T_BOOLEAN", type := .int, accessFlags := 25, slot := 11, constantValue := 0 }, { name := "T_CHAR", type := .int, accessFlags := 25, slot := 12, constantValue := 0 }, { name := "T_FLOAT", type := .int, accessFlags := 25, slot := 13, constantValue := 0 }, { name := "T_DOUBLE", type := .int, accessFlags := 25, slot := 14, constantValue := 0 }, { name := "T_BYTE", type := .int, accessFlags := 25, slot := 15, constantValue := 0 }, { name := "T_SHORT", type := .int, accessFlags := 25, slot := 16, constantValue := 0 }, { name := "T_INT", type := .int, accessFlags := 25, slot := 17, constantValue := 0 }, { name := "T_LONG", type := .int, accessFlags := 25, slot := 18, constantValue := 0 }, { name := "JLA", type := (.object "jdk/internal/access/JavaLangAccess"), accessFlags := 26, slot := 19, constantValue := 0 }, { name := "SOFT_MAX_ARRAY_LENGTH", type := .int, accessFlags := 25, slot := 20, constantValue := 0 }]
  methods := #[k20m0]
  instanceTypes := #[]
  staticTypes := #[(.object "jdk/internal/misc/Unsafe"), .boolean, .int, .int, .int, .int, .int, .int, .int, .int, .int, .int, .int, .int, .int, .int, .int, .int, .int, (.object "jdk/internal/access/JavaLangAccess"), .int]
  resolved := Array.replicate 378 none
  statics := none }

def pool21 : Array CpInfo := pool [(8, .class_ 10), (1, u "java/lang/Iterable"), (24, .class_ 36), (0, u "java/lang/Object")] 25

/-- java/lang/Iterable -/
def k21 : Class := { plain "java/lang/Iterable" (some 0) with
  accessFlags := 1537
  interfaces := #[]
  cf := some (fileOf pool21 8 #[] #[] 1537 35 #[] #[])
  fields := #[]
  methods := #[]
  instanceTypes := #[]
  staticTypes := #[]
  resolved := Array.replicate 62 none
  statics := none }

def pool22 : Array CpInfo := pool [(10, .class_ 12), (1, u "java/util/Collection"), (47, .class_ 61), (0, u "java/lang/Object"), (0, .class_ 63), (0, u "java/lang/Iterable")] 51

/-- java/util/Collection -/
def k22 : Class := { plain "java/util/Collection" (some 0) with
  accessFlags := 1537
  interfaces := #[21]
  cf := some (fileOf pool22 10 #[] #[] 1537 60 #[62] #[])
  fields := #[]
  methods := #[]
  instanceTypes := #[]
  staticTypes := #[]
  resolved := Array.replicate 115 none
  statics := none }

def pool23 : Array CpInfo := pool [(2, .class_ 4), (1, u "java/lang/Object"), (0, u "<init>"), (0, u "()V"), (1, .class_ 10), (1, u "java/util/AbstractCollection"), (66, .class_ 78), (0, u "java/util/Collection")] 81

def k23m0 : Method := { name := "<init>", desc := "()V", sig := { parameters := [], returnType := none }, accessFlags := 4, code := none }
/-- java/util/AbstractCollection -/
def k23 : Class := { plain "java/util/AbstractCollection" (some 0) with
  accessFlags := 1057
  interfaces := #[22]
  cf := some (fileOf pool23 8 #[] #[{ accessFlags := 4, nameIndex := 5, descriptorIndex := 6, attributes := #[] }] 1057 2 #[77] #[])
  fields := #[]
  methods := #[k23m0]
  instanceTypes := #[]
  staticTypes := #[]
  resolved := Array.replicate 160 none
  statics := none }

def pool24 : Array CpInfo := pool [(8, .class_ 10), (1, u "java/util/SequencedCollection"), (15, .class_ 27), (0, u "java/lang/Object"), (0, .class_ 29), (0, u "java/util/Collection")] 27

/-- java/util/SequencedCollection -/
def k24 : Class := { plain "java/util/SequencedCollection" (some 0) with
  accessFlags := 1537
  interfaces := #[22]
  cf := some (fileOf pool24 8 #[] #[] 1537 26 #[28] #[])
  fields := #[]
  methods := #[]
  instanceTypes := #[]
  staticTypes := #[]
  resolved := Array.replicate 57 none
  statics := none }

def pool25 : Array CpInfo := pool [(8, .class_ 10), (1, u "java/util/List"), (92, .class_ 104), (0, u "java/lang/Object"), (15, .class_ 121), (0, u "java/util/SequencedCollection")] 129

/-- java/util/List -/
def k25 : Class := { plain "java/util/List" (some 0) with
  accessFlags := 1537
  interfaces := #[24]
  cf := some (fileOf pool25 8 #[] #[] 1537 103 #[120] #[])
  fields := #[]
  methods := #[]
  instanceTypes := #[]
  staticTypes := #[]
  resolved := Array.replicate 251 none
  statics := none }

def pool26 : Array CpInfo := pool [(2, .class_ 4), (1, u "java/util/AbstractCollection"), (0, u "<init>"), (0, u "()V"), (1, .class_ 10), (1, u "java/util/AbstractList"), (0, u "modCount"), (0, u "I"), (64, .class_ 78), (0, u "java/util/AbstractList$Itr"), (3, .class_ 83), (0, u "java/util/AbstractList$ListItr"), (9, .class_ 94), (0, u "java/util/AbstractList$RandomAccessSubList"), (3, .class_ 99), (0, u "java/util/AbstractList$SubList"), (33, .class_ 134), (0, u "java/util/List"), (73, .class_ 209), (0, u "java/util/AbstractList$SubList$1"), (0, .class_ 211), (0, u "java/util/AbstractList$RandomAccessSpliterator")] 6

def k26m0 : Method := { name := "<init>", desc := "()V", sig := { parameters := [], returnType := none }, accessFlags := 4, code := none }
/-- java/util/AbstractList -/
def k26 : Class := { plain "java/util/AbstractList" (some 23) with
  accessFlags := 1057
  interfaces := #[25]
  cf := some (fileOf pool26 8 #[.nestMembers #[93, 98, 208, 210, 82, 77]] #[{ accessFlags := 4, nameIndex := 5, descriptorIndex := 6, attributes := #[] }] 1057 2 #[133] #[{ accessFlags := 132, nameIndex := 11, descriptorIndex := 12, attributes := #[] }])
  fields := #[{ name := "modCount", type := .int, accessFlags := 132, slot := 0, constantValue := 0 }]
  methods := #[k26m0]
  instanceTypes := #[.int]
  staticTypes := #[]
  resolved := Array.replicate 218 none
  statics := none }

def pool27 : Array CpInfo := pool [(1, .class_ 2), (0, u "java/util/RandomAccess"), (0, .class_ 4), (0, u "java/lang/Object")] 2

/-- java/util/RandomAccess -/
def k27 : Class := { plain "java/util/RandomAccess" (some 0) with
  accessFlags := 1537
  interfaces := #[]
  cf := some (fileOf pool27 1 #[] #[] 1537 3 #[] #[])
  fields := #[]
  methods := #[]
  instanceTypes := #[]
  staticTypes := #[]
  resolved := Array.replicate 7 none
  statics := none }

def pool28 : Array CpInfo := pool [(2, .class_ 4), (1, u "java/util/AbstractList"), (0, u "<init>"), (0, u "()V"), (1, .class_ 10), (1, u "java/util/Collections"), (54, .class_ 66), (0, u "java/util/Collections$EmptyList"), (0, .class_ 68), (0, u "java/util/RandomAccess"), (0, .class_ 70), (0, u "java/io/Serializable"), (0, u "serialVersionUID"), (0, u "J")] 77

def k28m0 : Method := { name := "<init>", desc := "()V", sig := { parameters := [], returnType := none }, accessFlags := 2, code := none }
/-- java/util/Collections$EmptyList -/
def k28 : Class := { plain "java/util/Collections$EmptyList" (some 26) with
  accessFlags := 32
  interfaces := #[27, 4]
  cf := some (fileOf pool28 65 #[.nestHost 8] #[{ accessFlags := 2, nameIndex := 5, descriptorIndex := 6, attributes := #[] }] 32 2 #[67, 69] #[{ accessFlags := 26, nameIndex := 71, descriptorIndex := 72, attributes := #[] }])
  fields := #[{ name := "serialVersionUID", type := .long, accessFlags := 26, slot := 0, constantValue := 0 }]
  methods := #[k28m0]
  instanceTypes := #[.int]
  staticTypes := #[.long]
  resolved := Array.replicate 150 none
  statics := none }

def pool29 : Array CpInfo := pool [(2, .class_ 4), (1, u "java/lang/StackTraceElement"), (0, u "<init>"), (2, .class_ 10), (1, u "java/lang/Object"), (0, u "()V"), (2, u "format"), (0, u "B"), (2, u "classLoaderName"), (0, u "Ljava/lang/String;"), (2, u "moduleName"), (2, u "moduleVersion"), (12, u "declaringClass"), (4, u "methodName"), (2, u "fileName"), (2, u "lineNumber"), (0, u "I"), (65, u "declaringClassObject"), (0, u "Ljava/lang/Class;"), (33, .class_ 153), (1, u "java/lang/StackTraceElement$HashedModules"), (17, .class_ 172), (0, u "java/io/Serializable"), (0, u "NATIVE_METHOD"), (1, u "UNKNOWN_SOURCE"), (2, u "BUILTIN_CLASS_LOADER"), (1, u "JDK_NON_UPGRADEABLE_MODULE"), (1, u "serialVersionUID"), (0, u "J")] 51

def k29m0 : Method := { name := "<init>", desc := "()V", sig := { parameters := [], returnType := none }, accessFlags := 2, code := none }
/-- java/lang/StackTraceElement -/
def k29 : Class := { plain "java/lang/StackTraceElement" (some 0) with
  accessFlags := 49
  interfaces := #[4]
  cf := some (fileOf pool29 2 #[.nestMembers #[151]] #[{ accessFlags := 2, nameIndex := 5, descriptorIndex := 11, attributes := #[] }] 49 8 #[171] #[{ accessFlags := 26, nameIndex := 173, descriptorIndex := 19, attributes := #[] }, { accessFlags := 26, nameIndex := 175, descriptorIndex := 19, attributes := #[] }, { accessFlags := 130, nameIndex := 116, descriptorIndex := 117, attributes := #[] }, { accessFlags := 2, nameIndex := 18, descriptorIndex := 19, attributes := #[] }, { accessFlags := 2, nameIndex := 22, descriptorIndex := 19, attributes := #[] }, { accessFlags := 2, nameIndex := 25, descriptorIndex := 19, attributes := #[] }, { accessFlags := 2, nameIndex := 38, descriptorIndex := 19, attributes := #[] }, { accessFlags := 2, nameIndex := 43, descriptorIndex := 19, attributes := #[] }, { accessFlags := 2, nameIndex := 46, descriptorIndex := 19, attributes := #[] }, { accessFlags := 2, nameIndex := 49, descriptorIndex := 50, attributes := #[] }, { accessFlags := 2, nameIndex := 14, descriptorIndex := 15, attributes := #[] }, { accessFlags := 26, nameIndex := 178, descriptorIndex := 15, attributes := #[] }, { accessFlags := 26, nameIndex := 180, descriptorIndex := 15, attributes := #[] }, { accessFlags := 26, nameIndex := 182, descriptorIndex := 183, attributes := #[] }])
  fields := #[{ name := "NATIVE_METHOD", type := (.object "java/lang/String"), accessFlags := 26, slot := 0, constantValue := 0 }, { name := "UNKNOWN_SOURCE", type := (.object "java/lang/String"), accessFlags := 26, slot := 1, constantValue := 0 }, { name := "declaringClassObject", type := (.object "java/lang/Class"), accessFlags := 130, slot := 0, constantValue := 0 }, { name := "classLoaderName", type := (.object "java/lang/String"), accessFlags := 2, slot := 1, constantValue := 0 }, { name := "moduleName", type := (.object "java/lang/String"), accessFlags := 2, slot := 2, constantValue := 0 }, { name := "moduleVersion", type := (.object "java/lang/String"), accessFlags := 2, slot := 3, constantValue := 0 }, { name := "declaringClass", type := (.object "java/lang/String"), accessFlags := 2, slot := 4, constantValue := 0 }, { name := "methodName", type := (.object "java/lang/String"), accessFlags := 2, slot := 5, constantValue := 0 }, { name := "fileName", type := (.object "java/lang/String"), accessFlags := 2, slot := 6, constantValue := 0 }, { name := "lineNumber", type := .int, accessFlags := 2, slot := 7, constantValue := 0 }, { name := "format", type := .byte, accessFlags := 2, slot := 8, constantValue := 0 }, { name := "BUILTIN_CLASS_LOADER", type := .byte, accessFlags := 26, slot := 2, constantValue := 0 }, { name := "JDK_NON_UPGRADEABLE_MODULE", type := .byte, accessFlags := 26, slot := 3, constantValue := 0 }, { name := "serialVersionUID", type := .long, accessFlags := 26, slot := 4, constantValue := 0 }]
  methods := #[k29m0]
  instanceTypes := #[(.object "java/lang/Class"), (.object "java/lang/String"), (.object "java/lang/String"), (.object "java/lang/String"), (.object "java/lang/String"), (.object "java/lang/String"), (.object "java/lang/String"), .int, .byte]
  staticTypes := #[(.object "java/lang/String"), (.object "java/lang/String"), .byte, .byte, .long]
  resolved := Array.replicate 235 none
  statics := none }

def pool30 : Array CpInfo := pool [(1, u "java/lang/Cloneable"), (0, .class_ 1), (0, u "java/lang/Object"), (0, .class_ 3)] 3

/-- java/lang/Cloneable -/
def k30 : Class := { plain "java/lang/Cloneable" (some 0) with
  accessFlags := 1537
  interfaces := #[]
  cf := some (fileOf pool30 2 #[] #[] 1537 4 #[] #[])
  fields := #[]
  methods := #[]
  instanceTypes := #[]
  staticTypes := #[]
  resolved := Array.replicate 8 none
  statics := none }

/-- the primitive byte -/
def k31 : Class := { plain "byte" none with kind := .primitive 'B', accessFlags := 0x411 }
/-- [B -/
def k32 : Class := { plain "[B" (some 0) with kind := .array 31 .byte, interfaces := #[30, 4], accessFlags := 1041 }

/-- the primitive char -/
def k33 : Class := { plain "char" none with kind := .primitive 'C', accessFlags := 0x411 }
/-- [C -/
def k34 : Class := { plain "[C" (some 0) with kind := .array 33 .char, interfaces := #[30, 4], accessFlags := 1041 }

/-- the primitive int -/
def k35 : Class := { plain "int" none with kind := .primitive 'I', accessFlags := 0x411 }
/-- [I -/
def k36 : Class := { plain "[I" (some 0) with kind := .array 35 .int, interfaces := #[30, 4], accessFlags := 1041 }

/-- [Ljava/lang/Object; -/
def k37 : Class := { plain "[Ljava/lang/Object;" (some 0) with kind := .array 0 (.object "java/lang/Object"), interfaces := #[30, 4], accessFlags := 1041 }

/-- [Ljava/lang/StackTraceElement; -/
def k38 : Class := { plain "[Ljava/lang/StackTraceElement;" (some 0) with kind := .array 29 (.object "java/lang/StackTraceElement"), interfaces := #[30, 4], accessFlags := 1041 }

/-- [Ljava/lang/Throwable; -/
def k39 : Class := { plain "[Ljava/lang/Throwable;" (some 0) with kind := .array 10 (.object "java/lang/Throwable"), interfaces := #[30, 4], accessFlags := 1041 }

def heap : Heap := #[{ cls := 6, slots := #[.ref 6, .ref 7, .ref 8, .ref 9, .null], vm := .statics 6 },
  { cls := 9, slots := #[.long 0, .int 1, .null, .int 0, .null, .int 0, .int 0], vm := .statics 9 },
  { cls := 10, slots := #[.long 0, .ref 11, .ref 12, .null, .null, .null, .null, .ref 13, .int 1], vm := .statics 10 },
  { cls := 15, slots := #[.null, .null, .null, .null, .ref 10, .null, .null], vm := .statics 15 },
  { cls := 18, slots := #[.int 0, .int 0, .int 0, .int 0, .int 0, .int 0, .int 0, .int 0, .null, .null, .ref 12, .null], vm := .statics 18 },
  { cls := 19, slots := #[.null, .null, .null], vm := .statics 19 },
  { cls := 6, slots := #[.null, .int 0, .int 0, .null], vm := .none },
  { cls := 6, slots := #[.null, .int 1, .int 0, .null], vm := .none },
  { cls := 6, slots := #[.null, .int 2, .int 0, .null], vm := .none },
  { cls := 6, slots := #[.null, .int 3, .int 0, .null], vm := .none },
  { cls := 15, slots := #[.null, .int 0, .int 0], vm := .none },
  { cls := 38, slots := #[], vm := .none },
  { cls := 28, slots := #[.int 0], vm := .none },
  { cls := 39, slots := #[], vm := .none }]
def classes : Array Class := #[k0, k1, k2, k3, k4, k5, k6, k7, k8, k9, k10, k11, k12, k13, k14, k15, k16, k17, k18, k19, k20, k21, k22, k23, k24, k25, k26, k27, k28, k29, k30, k31, k32, k33, k34, k35, k36, k37, k38, k39]
def interned : List (Array UInt16 × Addr) := []
def slotsUsed : Nat := 63
def theMethod : MethodId := ⟨1, 3⟩
def args0 : Array Value := #[.int 5, .int 5, .int 5]
def aboutOver (below : List Frame) : State where
  vm := { classes := classes, interned := interned.toArray }
  heap := heap
  slotsUsed := slotsUsed
  threads := #[{ frames := .invoking theMethod args0 :: below }]
def below0 : List Frame := [.native { method := ⟨0, 0⟩, args := #[] }]
def about1 : State := aboutOver below0
def p0 : Program := .bare "" "" ""
def e0 : Env := launch0.env 0 0 0
theorem w_frames : about1.frames = Frame.invoking theMethod args0 :: below0 := rfl
set_option maxRecDepth 65536 in
theorem w_args : argsFit about1.vm theMethod args0 = true := by decide +kernel
set_option maxRecDepth 65536 in
theorem w_heap : heapFits about1 = true := by decide +kernel
set_option maxRecDepth 65536 in
theorem w_runnable : about1.curStatus? = some .runnable := by decide +kernel
set_option maxRecDepth 65536 in
theorem w_alone : about1.alone = true := by decide +kernel
set_option maxRecDepth 65536 in
theorem w_named : about1.methodNamed? x = some theMethod := by decide +kernel
set_option maxRecDepth 65536 in
theorem w_hears : about1.hears theMethod below0 = true := by decide +kernel
set_option maxRecDepth 65536 in
theorem w_ripe : about1.ripe theMethod args0 below0 = true := by decide +kernel
theorem w_running : about1.status = .running := rfl
set_option maxRecDepth 65536 in
theorem w_room : about1.hasRoom e0.platform room_1 = true :=
  launch0.hasRoom_least _ room_1 (by decide +kernel) (by decide +kernel) (by decide +kernel) (by decide +kernel) (by decide +kernel) (by decide +kernel)
theorem allAtoms_all (ts : List Jvm.Cond) (a : Array Jvm.Value) (st : Jvm.State) : (allAtoms ts).before a st = ts.all (fun c => c.before a st) := by
  induction ts with
  | nil => rfl
  | cons c t ih =>
    show (Jvm.Cond.and c (allAtoms t)).before a st = _
    rw [Jvm.Cond.before_and, ih, List.all_cons]
def words1 : List Jvm.Cond := Jvm.Cond.code x code maxLocals ret :: tables_1
/-- a 'code' word, met by the world's own term for the bytes: nothing is compared byte by byte -/
theorem code_word {y : MethodName} {bytes : ByteArray} {mx : Nat} {rt : Option FieldType} {a : Array Value} {s : State} {m : MethodId} {meth : Method} {c : Code} (h1 : s.methodNamed? y = some m) (h2 : s.vm.method? m = some meth) (h3 : meth.code = some c) (h4 : c.code = bytes)
    (h5 : (c.maxLocals == mx && c.exceptionTable.isEmpty && decide (c.maxStack ≤ mostOperands) && decide (meth.sig.returnType = rt) && !meth.locks && decide (parseMethodDescriptor y.desc = some meth.sig)) = true) : (Jvm.Cond.code y bytes mx rt).before a s = true := by
  simp only [Bool.and_eq_true, beq_iff_eq, Bool.not_eq_true', decide_eq_true_eq] at h5
  obtain ⟨⟨⟨⟨⟨g1, g2⟩, g3⟩, g4⟩, g5⟩, g6⟩ := h5
  simp [Cond.before, Cond.holds, Cond.value, h1, h2, h3, h4, g1, g2, g3, g4, g5, g6]
def isCode : Jvm.Cond → Bool
  | .code _ _ _ _ => true
  | _ => false
theorem all_split {L : List Jvm.Cond} {P : Jvm.Cond → Bool} (h1 : L.all (fun c => isCode c || P c) = true) (h2 : ∀ c ∈ L.filter isCode, P c = true) : L.all P = true := by
  refine List.all_eq_true.mpr fun c hc => ?_
  have h := List.all_eq_true.mp h1 c hc
  rcases Bool.eq_false_or_eq_true (isCode c) with hi | hi
  · exact h2 c (List.mem_filter.mpr ⟨hc, hi⟩)
  · simpa [hi] using h
set_option maxRecDepth 65536 in
theorem w_c0 : (Jvm.Cond.code x code maxLocals ret).before args0 about1 = true := code_word (m := ⟨1, 3⟩) (meth := k1m3) (c := k1c3) (by decide +kernel) rfl rfl rfl (by decide +kernel)
set_option maxRecDepth 65536 in
theorem w_c1 : (Jvm.Cond.code ({ cls := "com/example/driftkey/driftkey/storage/WriteResultRefusedPinLaw", name := "pick", desc := "(I)Lcom/example/driftkey/driftkey/request/ErrorType;" } : Jvm.MethodName) method_2_code (2 : Nat) (Option.some (Jvm.ClassFile.FieldType.object "com/example/driftkey/driftkey/request/ErrorType"))).before args0 about1 = true := code_word (m := ⟨1, 1⟩) (meth := k1m1) (c := k1c1) (by decide +kernel) rfl rfl rfl (by decide +kernel)
set_option maxRecDepth 65536 in
theorem w_c2 : (Jvm.Cond.code ({ cls := "com/example/driftkey/driftkey/storage/WriteResultRefusedPinLaw", name := "reason", desc := "(III)Ljava/lang/String;" } : Jvm.MethodName) method_3_code (5 : Nat) (Option.some (Jvm.ClassFile.FieldType.object "java/lang/String"))).before args0 about1 = true := code_word (m := ⟨1, 2⟩) (meth := k1m2) (c := k1c2) (by decide +kernel) rfl rfl rfl (by decide +kernel)
set_option maxRecDepth 65536 in
theorem w_c3 : (Jvm.Cond.code ({ cls := "java/lang/String", name := "<init>", desc := "([C)V" } : Jvm.MethodName) jdk_42_method_3_code (2 : Nat) (Option.none : Option Jvm.ClassFile.FieldType)).before args0 about1 = true := code_word (m := ⟨9, 1⟩) (meth := k9m1) (c := k9c1) (by decide +kernel) rfl rfl rfl (by decide +kernel)
set_option maxRecDepth 65536 in
theorem w_c4 : (Jvm.Cond.code ({ cls := "java/lang/String", name := "<init>", desc := "([CIILjava/lang/Void;)V" } : Jvm.MethodName) jdk_42_method_149_code (6 : Nat) (Option.none : Option Jvm.ClassFile.FieldType)).before args0 about1 = true := code_word (m := ⟨9, 3⟩) (meth := k9m3) (c := k9c3) (by decide +kernel) rfl rfl rfl (by decide +kernel)
set_option maxRecDepth 65536 in
theorem w_c5 : (Jvm.Cond.code ({ cls := "java/lang/Object", name := "<init>", desc := "()V" } : Jvm.MethodName) object_method_1_code (1 : Nat) (Option.none : Option Jvm.ClassFile.FieldType)).before args0 about1 = true := code_word (m := ⟨0, 0⟩) (meth := k0m0) (c := k0c0) (by decide +kernel) rfl rfl rfl (by decide +kernel)
set_option maxRecDepth 65536 in
theorem w_c6 : (Jvm.Cond.code ({ cls := "com/example/driftkey/driftkey/request/RequestException", name := "<init>", desc := "(Lcom/example/driftkey/driftkey/request/ErrorType;Ljava/lang/String;)V" } : Jvm.MethodName) prog_19_method_1_code (3 : Nat) (Option.none : Option Jvm.ClassFile.FieldType)).before args0 about1 = true := code_word (m := ⟨12, 0⟩) (meth := k12m0) (c := k12c0) (by decide +kernel) rfl rfl rfl (by decide +kernel)
set_option maxRecDepth 65536 in
theorem w_c7 : (Jvm.Cond.code ({ cls := "java/lang/Exception", name := "<init>", desc := "(Ljava/lang/String;)V" } : Jvm.MethodName) jdk_59_method_2_code (2 : Nat) (Option.none : Option Jvm.ClassFile.FieldType)).before args0 about1 = true := code_word (m := ⟨11, 1⟩) (meth := k11m1) (c := k11c1) (by decide +kernel) rfl rfl rfl (by decide +kernel)
set_option maxRecDepth 65536 in
theorem w_c8 : (Jvm.Cond.code ({ cls := "java/lang/Throwable", name := "<init>", desc := "(Ljava/lang/String;)V" } : Jvm.MethodName) jdk_78_method_2_code (2 : Nat) (Option.none : Option Jvm.ClassFile.FieldType)).before args0 about1 = true := code_word (m := ⟨10, 1⟩) (meth := k10m1) (c := k10c1) (by decide +kernel) rfl rfl rfl (by decide +kernel)
set_option maxRecDepth 65536 in
theorem w_c9 : (Jvm.Cond.code ({ cls := "java/lang/Throwable", name := "<init>", desc := "()V" } : Jvm.MethodName) jdk_78_method_1_code (1 : Nat) (Option.none : Option Jvm.ClassFile.FieldType)).before args0 about1 = true := code_word (m := ⟨10, 0⟩) (meth := k10m0) (c := k10c0) (by decide +kernel) rfl rfl rfl (by decide +kernel)
set_option maxRecDepth 65536 in
theorem w_c10 : (Jvm.Cond.code ({ cls := "com/example/driftkey/driftkey/storage/WriteResult", name := "refused", desc := "(Lcom/example/driftkey/driftkey/request/RequestException;)Lcom/example/driftkey/driftkey/storage/WriteResult;" } : Jvm.MethodName) prog_25_method_3_code (1 : Nat) (Option.some (Jvm.ClassFile.FieldType.object "com/example/driftkey/driftkey/storage/WriteResult"))).before args0 about1 = true := code_word (m := ⟨14, 1⟩) (meth := k14m1) (c := k14c1) (by decide +kernel) rfl rfl rfl (by decide +kernel)
set_option maxRecDepth 65536 in
theorem w_c11 : (Jvm.Cond.code ({ cls := "com/example/driftkey/driftkey/storage/WriteResult", name := "<init>", desc := "(Lcom/example/driftkey/driftkey/storage/WriteResult$Outcome;JLcom/example/driftkey/driftkey/request/RequestException;)V" } : Jvm.MethodName) prog_25_method_2_code (5 : Nat) (Option.none : Option Jvm.ClassFile.FieldType)).before args0 about1 = true := code_word (m := ⟨14, 0⟩) (meth := k14m0) (c := k14c0) (by decide +kernel) rfl rfl rfl (by decide +kernel)
set_option maxRecDepth 65536 in
theorem w_c12 : (Jvm.Cond.code ({ cls := "java/lang/Record", name := "<init>", desc := "()V" } : Jvm.MethodName) jdk_30_method_1_code (1 : Nat) (Option.none : Option Jvm.ClassFile.FieldType)).before args0 about1 = true := code_word (m := ⟨13, 0⟩) (meth := k13m0) (c := k13c0) (by decide +kernel) rfl rfl rfl (by decide +kernel)
set_option maxRecDepth 65536 in
theorem w_c13 : (Jvm.Cond.code ({ cls := "com/example/driftkey/driftkey/storage/WriteResult", name := "outcome", desc := "()Lcom/example/driftkey/driftkey/storage/WriteResult$Outcome;" } : Jvm.MethodName) prog_25_method_7_code (1 : Nat) (Option.some (Jvm.ClassFile.FieldType.object "com/example/driftkey/driftkey/storage/WriteResult$Outcome"))).before args0 about1 = true := code_word (m := ⟨14, 2⟩) (meth := k14m2) (c := k14c2) (by decide +kernel) rfl rfl rfl (by decide +kernel)
set_option maxRecDepth 65536 in
theorem w_c14 : (Jvm.Cond.code ({ cls := "com/example/driftkey/driftkey/storage/WriteResult", name := "version", desc := "()J" } : Jvm.MethodName) prog_25_method_8_code (1 : Nat) (Option.some Jvm.ClassFile.FieldType.long)).before args0 about1 = true := code_word (m := ⟨14, 3⟩) (meth := k14m3) (c := k14c3) (by decide +kernel) rfl rfl rfl (by decide +kernel)
set_option maxRecDepth 65536 in
theorem w_c15 : (Jvm.Cond.code ({ cls := "com/example/driftkey/driftkey/storage/WriteResult", name := "refusal", desc := "()Lcom/example/driftkey/driftkey/request/RequestException;" } : Jvm.MethodName) prog_25_method_9_code (1 : Nat) (Option.some (Jvm.ClassFile.FieldType.object "com/example/driftkey/driftkey/request/RequestException"))).before args0 about1 = true := code_word (m := ⟨14, 4⟩) (meth := k14m4) (c := k14c4) (by decide +kernel) rfl rfl rfl (by decide +kernel)
set_option maxRecDepth 65536 in
theorem w_c16 : (Jvm.Cond.code ({ cls := "java/lang/StringUTF16", name := "compress", desc := "([CII)[B" } : Jvm.MethodName) jdk_52_method_16_code (6 : Nat) (Option.some (Jvm.ClassFile.FieldType.array Jvm.ClassFile.FieldType.byte))).before args0 about1 = true := code_word (m := ⟨16, 2⟩) (meth := k16m2) (c := k16c2) (by decide +kernel) rfl rfl rfl (by decide +kernel)
set_option maxRecDepth 65536 in
theorem w_c17 : (Jvm.Cond.code ({ cls := "java/lang/StringUTF16", name := "compress", desc := "([CI[BII)I" } : Jvm.MethodName) jdk_52_method_21_code (7 : Nat) (Option.some Jvm.ClassFile.FieldType.int)).before args0 about1 = true := code_word (m := ⟨16, 3⟩) (meth := k16m3) (c := k16c3) (by decide +kernel) rfl rfl rfl (by decide +kernel)
set_option maxRecDepth 65536 in
theorem w_c18 : (Jvm.Cond.code ({ cls := "java/lang/StringUTF16", name := "coderFromArrayLen", desc := "([BI)B" } : Jvm.MethodName) jdk_52_method_15_code (2 : Nat) (Option.some Jvm.ClassFile.FieldType.byte)).before args0 about1 = true := code_word (m := ⟨16, 1⟩) (meth := k16m1) (c := k16c1) (by decide +kernel) rfl rfl rfl (by decide +kernel)
set_option maxRecDepth 65536 in
theorem w_c19 : (Jvm.Cond.code ({ cls := "java/lang/String", name := "valueOf", desc := "(C)Ljava/lang/String;" } : Jvm.MethodName) jdk_42_method_139_code (1 : Nat) (Option.some (Jvm.ClassFile.FieldType.object "java/lang/String"))).before args0 about1 = true := code_word (m := ⟨9, 2⟩) (meth := k9m2) (c := k9c2) (by decide +kernel) rfl rfl rfl (by decide +kernel)
set_option maxRecDepth 65536 in
theorem w_c20 : (Jvm.Cond.code ({ cls := "java/lang/StringLatin1", name := "canEncode", desc := "(C)Z" } : Jvm.MethodName) jdk_43_method_3_code (1 : Nat) (Option.some Jvm.ClassFile.FieldType.boolean)).before args0 about1 = true := code_word (m := ⟨17, 1⟩) (meth := k17m1) (c := k17c1) (by decide +kernel) rfl rfl rfl (by decide +kernel)
set_option maxRecDepth 65536 in
theorem w_c21 : (Jvm.Cond.code ({ cls := "java/lang/StringLatin1", name := "toBytes", desc := "(C)[B" } : Jvm.MethodName) jdk_43_method_46_code (1 : Nat) (Option.some (Jvm.ClassFile.FieldType.array Jvm.ClassFile.FieldType.byte))).before args0 about1 = true := code_word (m := ⟨17, 2⟩) (meth := k17m2) (c := k17c2) (by decide +kernel) rfl rfl rfl (by decide +kernel)
set_option maxRecDepth 65536 in
theorem w_c22 : (Jvm.Cond.code ({ cls := "java/lang/String", name := "<init>", desc := "([BB)V" } : Jvm.MethodName) jdk_42_method_151_code (3 : Nat) (Option.none : Option Jvm.ClassFile.FieldType)).before args0 about1 = true := code_word (m := ⟨9, 4⟩) (meth := k9m4) (c := k9c4) (by decide +kernel) rfl rfl rfl (by decide +kernel)
def codes1 : List Jvm.Cond := [Jvm.Cond.code x code maxLocals ret, Jvm.Cond.code ({ cls := "com/example/driftkey/driftkey/storage/WriteResultRefusedPinLaw", name := "pick", desc := "(I)Lcom/example/driftkey/driftkey/request/ErrorType;" } : Jvm.MethodName) method_2_code (2 : Nat) (Option.some (Jvm.ClassFile.FieldType.object "com/example/driftkey/driftkey/request/ErrorType")), Jvm.Cond.code ({ cls := "com/example/driftkey/driftkey/storage/WriteResultRefusedPinLaw", name := "reason", desc := "(III)Ljava/lang/String;" } : Jvm.MethodName) method_3_code (5 : Nat) (Option.some (Jvm.ClassFile.FieldType.object "java/lang/String")), Jvm.Cond.code ({ cls := "java/lang/String", name := "<init>", desc := "([C)V" } : Jvm.MethodName) jdk_42_method_3_code (2 : Nat) (Option.none : Option Jvm.ClassFile.FieldType), Jvm.Cond.code ({ cls := "java/lang/String", name := "<init>", desc := "([CIILjava/lang/Void;)V" } : Jvm.MethodName) jdk_42_method_149_code (6 : Nat) (Option.none : Option Jvm.ClassFile.FieldType), Jvm.Cond.code ({ cls := "java/lang/Object", name := "<init>", desc := "()V" } : Jvm.MethodName) object_method_1_code (1 : Nat) (Option.none : Option Jvm.ClassFile.FieldType), Jvm.Cond.code ({ cls := "com/example/driftkey/driftkey/request/RequestException", name := "<init>", desc := "(Lcom/example/driftkey/driftkey/request/ErrorType;Ljava/lang/String;)V" } : Jvm.MethodName) prog_19_method_1_code (3 : Nat) (Option.none : Option Jvm.ClassFile.FieldType), Jvm.Cond.code ({ cls := "java/lang/Exception", name := "<init>", desc := "(Ljava/lang/String;)V" } : Jvm.MethodName) jdk_59_method_2_code (2 : Nat) (Option.none : Option Jvm.ClassFile.FieldType), Jvm.Cond.code ({ cls := "java/lang/Throwable", name := "<init>", desc := "(Ljava/lang/String;)V" } : Jvm.MethodName) jdk_78_method_2_code (2 : Nat) (Option.none : Option Jvm.ClassFile.FieldType), Jvm.Cond.code ({ cls := "java/lang/Throwable", name := "<init>", desc := "()V" } : Jvm.MethodName) jdk_78_method_1_code (1 : Nat) (Option.none : Option Jvm.ClassFile.FieldType), Jvm.Cond.code ({ cls := "com/example/driftkey/driftkey/storage/WriteResult", name := "refused", desc := "(Lcom/example/driftkey/driftkey/request/RequestException;)Lcom/example/driftkey/driftkey/storage/WriteResult;" } : Jvm.MethodName) prog_25_method_3_code (1 : Nat) (Option.some (Jvm.ClassFile.FieldType.object "com/example/driftkey/driftkey/storage/WriteResult")), Jvm.Cond.code ({ cls := "com/example/driftkey/driftkey/storage/WriteResult", name := "<init>", desc := "(Lcom/example/driftkey/driftkey/storage/WriteResult$Outcome;JLcom/example/driftkey/driftkey/request/RequestException;)V" } : Jvm.MethodName) prog_25_method_2_code (5 : Nat) (Option.none : Option Jvm.ClassFile.FieldType), Jvm.Cond.code ({ cls := "java/lang/Record", name := "<init>", desc := "()V" } : Jvm.MethodName) jdk_30_method_1_code (1 : Nat) (Option.none : Option Jvm.ClassFile.FieldType), Jvm.Cond.code ({ cls := "com/example/driftkey/driftkey/storage/WriteResult", name := "outcome", desc := "()Lcom/example/driftkey/driftkey/storage/WriteResult$Outcome;" } : Jvm.MethodName) prog_25_method_7_code (1 : Nat) (Option.some (Jvm.ClassFile.FieldType.object "com/example/driftkey/driftkey/storage/WriteResult$Outcome")), Jvm.Cond.code ({ cls := "com/example/driftkey/driftkey/storage/WriteResult", name := "version", desc := "()J" } : Jvm.MethodName) prog_25_method_8_code (1 : Nat) (Option.some Jvm.ClassFile.FieldType.long), Jvm.Cond.code ({ cls := "com/example/driftkey/driftkey/storage/WriteResult", name := "refusal", desc := "()Lcom/example/driftkey/driftkey/request/RequestException;" } : Jvm.MethodName) prog_25_method_9_code (1 : Nat) (Option.some (Jvm.ClassFile.FieldType.object "com/example/driftkey/driftkey/request/RequestException")), Jvm.Cond.code ({ cls := "java/lang/StringUTF16", name := "compress", desc := "([CII)[B" } : Jvm.MethodName) jdk_52_method_16_code (6 : Nat) (Option.some (Jvm.ClassFile.FieldType.array Jvm.ClassFile.FieldType.byte)), Jvm.Cond.code ({ cls := "java/lang/StringUTF16", name := "compress", desc := "([CI[BII)I" } : Jvm.MethodName) jdk_52_method_21_code (7 : Nat) (Option.some Jvm.ClassFile.FieldType.int), Jvm.Cond.code ({ cls := "java/lang/StringUTF16", name := "coderFromArrayLen", desc := "([BI)B" } : Jvm.MethodName) jdk_52_method_15_code (2 : Nat) (Option.some Jvm.ClassFile.FieldType.byte), Jvm.Cond.code ({ cls := "java/lang/String", name := "valueOf", desc := "(C)Ljava/lang/String;" } : Jvm.MethodName) jdk_42_method_139_code (1 : Nat) (Option.some (Jvm.ClassFile.FieldType.object "java/lang/String")), Jvm.Cond.code ({ cls := "java/lang/StringLatin1", name := "canEncode", desc := "(C)Z" } : Jvm.MethodName) jdk_43_method_3_code (1 : Nat) (Option.some Jvm.ClassFile.FieldType.boolean), Jvm.Cond.code ({ cls := "java/lang/StringLatin1", name := "toBytes", desc := "(C)[B" } : Jvm.MethodName) jdk_43_method_46_code (1 : Nat) (Option.some (Jvm.ClassFile.FieldType.array Jvm.ClassFile.FieldType.byte)), Jvm.Cond.code ({ cls := "java/lang/String", name := "<init>", desc := "([BB)V" } : Jvm.MethodName) jdk_42_method_151_code (3 : Nat) (Option.none : Option Jvm.ClassFile.FieldType)]
set_option maxRecDepth 65536 in
theorem codes_eq : words1.filter isCode = codes1 := rfl
theorem w_codes : ∀ c ∈ words1.filter isCode, c.before args0 about1 = true := by
  rw [codes_eq]
  intro c hc
  simp only [codes1, List.mem_cons, List.not_mem_nil, or_false] at hc
  rcases hc with rfl | rfl | rfl | rfl | rfl | rfl | rfl | rfl | rfl | rfl | rfl | rfl | rfl | rfl | rfl | rfl | rfl | rfl | rfl | rfl | rfl | rfl | rfl
  · exact w_c0
  · exact w_c1
  · exact w_c2
  · exact w_c3
  · exact w_c4
  · exact w_c5
  · exact w_c6
  · exact w_c7
  · exact w_c8
  · exact w_c9
  · exact w_c10
  · exact w_c11
  · exact w_c12
  · exact w_c13
  · exact w_c14
  · exact w_c15
  · exact w_c16
  · exact w_c17
  · exact w_c18
  · exact w_c19
  · exact w_c20
  · exact w_c21
  · exact w_c22
set_option maxRecDepth 65536 in
theorem w_t1 : (words1.take 24).all (fun c => isCode c || c.before args0 about1) = true := by decide +kernel
set_option maxRecDepth 65536 in
theorem w_t2 : ((words1.drop 24).take 24).all (fun c => isCode c || c.before args0 about1) = true := by decide +kernel
set_option maxRecDepth 65536 in
theorem w_t3 : (((words1.drop 24).drop 24).take 24).all (fun c => isCode c || c.before args0 about1) = true := by decide +kernel
set_option maxRecDepth 65536 in
theorem w_t4 : ((((words1.drop 24).drop 24).drop 24).take 24).all (fun c => isCode c || c.before args0 about1) = true := by decide +kernel
set_option maxRecDepth 65536 in
theorem w_t5 : (((((words1.drop 24).drop 24).drop 24).drop 24).take 24).all (fun c => isCode c || c.before args0 about1) = true := by decide +kernel
set_option maxRecDepth 65536 in
theorem w_t6 : ((((((words1.drop 24).drop 24).drop 24).drop 24).drop 24).take 24).all (fun c => isCode c || c.before args0 about1) = true := by decide +kernel
set_option maxRecDepth 65536 in
theorem w_t7 : ((((((words1.drop 24).drop 24).drop 24).drop 24).drop 24).drop 24).all (fun c => isCode c || c.before args0 about1) = true := by decide +kernel
theorem w_tables : (allAtoms (Jvm.Cond.code x code maxLocals ret :: tables_1)).before args0 about1 = true := by
  rw [allAtoms_all]
  show words1.all (fun c => c.before args0 about1) = true
  refine all_split ?_ w_codes
  rw [← List.take_append_drop 24 words1, List.all_append, w_t1, ← List.take_append_drop 24 (words1.drop 24), List.all_append, w_t2, ← List.take_append_drop 24 ((words1.drop 24).drop 24), List.all_append, w_t3, ← List.take_append_drop 24 (((words1.drop 24).drop 24).drop 24), List.all_append, w_t4, ← List.take_append_drop 24 ((((words1.drop 24).drop 24).drop 24).drop 24), List.all_append, w_t5, ← List.take_append_drop 24 (((((words1.drop 24).drop 24).drop 24).drop 24).drop 24), List.all_append, w_t6, w_t7]
  rfl
set_option maxRecDepth 65536 in
theorem w_rest : rest_1_c.before args0 about1 = true := by decide +kernel
set_option maxRecDepth 65536 in
theorem w_case : (Jvm.Cond.and given_1 narrow_1).before args0 about1 = true := by decide +kernel
set_option maxRecDepth 65536 in
theorem w_consts : constsHeld consts_1 about1 := Jvm.Lit.constsHeldB_iff.mp (by decide +kernel)
theorem w_applies : (headSpec (Jvm.Cond.code x code maxLocals ret :: tables_1) room_1).applies x e0.platform about1 = true :=
  (Spec.applies_iff w_frames).mpr ⟨w_running, w_runnable, w_alone, w_named, w_hears, w_ripe, w_room, w_tables⟩
theorem atStart : AtStart classFile x code maxLocals ret World_1 tables_1 room_1 Calls_1 rest_1 Pre_1 launch0 p0 e0 about1 theMethod args0 below0 :=
  ⟨lists_1, trivial, launch0.admits_env _ _ _, launch0.least_env, fairChoices_fair.cas, fairChoices_fair.clock, w_frames, w_args, w_heap, w_applies, ⟨(by decide +kernel : framesKnown about1 = true), ⟨(by decide +kernel : tablesKnown about1 = true), ⟨w_consts, trivial⟩⟩⟩, w_rest, w_case⟩
end start1
theorem witness_1 : WitnessClaimed_1 := ⟨start1.p0, start1.e0, start1.about1, start1.theMethod, start1.args0, start1.below0, start1.atStart⟩
end Jvm.Pilot.@@N@@
