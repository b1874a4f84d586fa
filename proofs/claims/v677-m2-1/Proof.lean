import JvmDerived
import JvmDerived.Pilot.@@N@@Statement
import JvmDerived.Pilot.@@N@@Code
set_option linter.unusedVariables false
set_option linter.unusedSimpArgs false
namespace Jvm.RoadKit
open Sem ClassFile Op Lib Jvm.Stand Jvm.Free Jvm.LawKit
section Own
variable {p : Program} {l : Launch} {e : Env} {R : Room} {s : State} {m : MethodId} {args : Array Value} {below : List Frame} {meth : Method} {c : Code} {T : State} {locs : List Loc} {cells slots : Nat} {Z : State} {a0 : Array Value} {h h' h2 : Heap}
/-- what is left to show of a walk that stands at S -/
def OEnds (p : Program) (e : Env) (below : List Frame) (s : State) (K N : Nat) (Qf : Option Value → Heap → List Loc → Prop) (S : State) : Prop :=
  ∃ s₂ o, Steps p.tables e below S s₂ ∧ s₂.status = .running ∧ Ended s₂ below o ∧ ∃ v L, o = .returned v ∧ Qf v s₂.heap L ∧ FrameEnd s o s₂ L K N
variable {K N : Nat} {Qf : Option Value → Heap → List Loc → Prop}
theorem OEnds.st {S S' : State} (k : ∀ t, Steps p.tables e below S' t → Steps p.tables e below S t) (h : OEnds p e below s K N Qf S') : OEnds p e below s K N Qf S := by
  obtain ⟨s2, o, h1, r⟩ := h
  exact ⟨s2, o, k _ h1, r⟩
theorem OEnds.cast {g g' : JFrame} (q : g = g') (k : OEnds p e below s K N Qf (T.setTop g')) : OEnds p e below s K N Qf (T.setTop g) := q ▸ k
theorem OEnds.ret (X : Stand p l e R s m args below meth c T locs cells slots) (hx : p.tables.exec = Jvm.exec) {pc : Nat} {Ls : Array Slot} {w : Value} {t : FieldType} {i : Instr} {rest : List Value} (hret : meth.sig.returnType = some t) (hlk : meth.locks = false) (hn : narrow t w = w)
    (hi : (i = .ireturn ∧ (t = .int ∨ t = .boolean ∨ t = .byte ∨ t = .char ∨ t = .short) ∧ ∃ z, w = .int z) ∨ (i = .lreturn ∧ t = .long ∧ ∃ z, w = .long z) ∨ (i = .dreturn ∧ t = .double ∧ ∃ z, w = .double z) ∨ (i = .freturn ∧ t = .float ∧ ∃ z, w = .float z) ∨ (i = .areturn ∧ t.isReference = true ∧ w.isRef = true))
    (hd : decode c.code pc = .ok (i, 1)) (hc : cells ≤ K) (hs : slots ≤ N) (q : Qf (some w) T.heap locs) : OEnds p e below s K N Qf (T.setTop (mkF m pc Ls (w :: rest))) := by
  obtain ⟨fs, hr, hrun, hended, hW, hsame⟩ := X.leave (v := some w) (fun h => by rw [hret] at h; cases h) hlk
  exact ⟨_, _, retOut X hx hret hn hi hd hr, hrun, hended, _, _, rfl, q, ⟨_, rfl⟩, hW, hsame.mono hc hs⟩
theorem OEnds.retV (X : Stand p l e R s m args below meth c T locs cells slots) (hx : p.tables.exec = Jvm.exec) {pc : Nat} {Ls : Array Slot} (hret : meth.sig.returnType = none) (hlk : meth.locks = false)
    (hd : decode c.code pc = .ok (.return_, 1)) (hc : cells ≤ K) (hs : slots ≤ N) (q : Qf none T.heap locs) : OEnds p e below s K N Qf (T.setTop (mkF m pc Ls [])) := by
  obtain ⟨fs, hr, hrun, hended, hW, hsame⟩ := X.leave (v := none) (fun _ => rfl) hlk
  exact ⟨_, _, X.returnOut hx hret hd hr, hrun, hended, _, _, rfl, q, ⟨_, rfl⟩, hW, hsame.mono hc hs⟩
/-- a contract -/
def Con (l : Launch) (Z : State) (y : MethodName) (bytes : ByteArray) (maxL : Nat) (ret : Option FieldType) (ws : List Cond) (rm : Room) (as' : Array Value) (h0 : Heap) (Q : Option Value → Heap → List Loc → Prop) : Prop :=
  MetFree l y (head1 (Cond.code y bytes maxL ret :: ws) rm) (fun a U => a = as' ∧ Z.Warmed39 U.vm ∧ U.heap = h0) (fun _ _ _ _ _ => True) (fun _ U o U' => ∃ v L, o = .returned v ∧ Q v U'.heap L ∧ FrameEnd U o U' L rm.cells rm.slots)
variable {y : MethodName} {bytes : ByteArray} {maxL : Nat} {ret : Option FieldType} {ws : List Cond} {rm : Room} {as' : Array Value} {h0 : Heap} {Q : Option Value → Heap → List Loc → Prop}
theorem Con.walk (hpl : plainFor y = true) (body : ∀ (p : Program) (e : Env) (s : State) (m : MethodId) (below : List Frame) (meth : Method) (c : Code) (T : State), Stand p l e rm s m as' below meth c T [] 0 0 → p.tables.exec = Jvm.exec → Z.Warmed39 s.vm → c.code = bytes → c.maxLocals = maxL →
      s.vm.findClass y.cls = some m.cls → meth.name = y.name → meth.sig.returnType = ret → meth.locks = false → T.heap = h0 → OEnds p e below s rm.cells rm.slots Q (T.setTop (entryFrame m as' maxL))) : Con l Z y bytes maxL ret ws rm as' h0 Q := by
  refine MetFree.of_bodySF hpl hisR ?_
  intro p e s m args below meth c s₁ Bd hml0 hP hK
  obtain ⟨rfl, hZ, hh⟩ := hP
  exact body p e s m below meth c s₁ (Stand.of_body Bd) Bd.exec hZ Bd.bytes hml0 (findClass_of_methodNamed Bd.named) (name_of_methodNamed Bd.named Bd.method).1 Bd.returns Bd.notSynchronized (by rw [← hh, Bd.state]; rfl)
/-- who pays a call, in the one form of this text -/
def SB (l : Launch) (R : Room) (p : Program) (e : Env) (below : List Frame) (s : State) (args : Array Value) (y : MethodName) (len W : Nat) (as' : Array Value) (h : Heap) (Q : Option Value → Heap → List Loc → Prop) (kc ks : Nat) : Prop :=
  Back l R p e below s args y len W (fun A a => a = as' ∧ A.U.heap = h ∧ A.cells + kc ≤ R.cells ∧ A.slots + ks ≤ R.slots) (fun A _ v B => ∃ L, Q v B.U.heap L ∧ B.locs = A.locs ++ L ∧ B.cells = A.cells + kc ∧ B.slots = A.slots + ks)
theorem Con.sb {len W : Nat} (hM : Con l Z y bytes maxL ret [] rm as' h Q) (hZ : Z.Warmed39 s.vm) (wc : (Cond.code y bytes maxL ret).before a0 Z = true) (wz : (Cond.initialized y.cls).before a0 Z = true) (hf : rm.frames + 1 ≤ R.frames) (hl : W + (maxL + 11) + rm.locals ≤ R.locals) :
    SB l R p e below s args y len W as' h Q rm.cells rm.slots := backOf hM hZ wc wz hf hl
theorem SB.of {len W kc ks : Nat} (hB : Back l R p e below s args y len W (fun A a => a = as' ∧ A.U.heap = h ∧ A.cells + kc ≤ R.cells ∧ A.slots + ks ≤ R.slots) (fun A _ v B => ∃ L, Q v B.U.heap L ∧ B.locs = A.locs ++ L ∧ B.cells = A.cells + kc ∧ B.slots = A.slots + ks)) : SB l R p e below s args y len W as' h Q kc ks := hB
theorem SB.mono {len W kc ks : Nat} {Q' : Option Value → Heap → List Loc → Prop} (hB : SB l R p e below s args y len W as' h Q kc ks) (f : ∀ v h' L, Q v h' L → Q' v h' L) : SB l R p e below s args y len W as' h Q' kc ks :=
  Back.mono hB (fun _ _ q => q) (fun _ _ _ _ _ ⟨L, q, r⟩ => ⟨L, f _ _ _ q, r⟩)
theorem callC (X : Stand p l e R s m args below meth c T locs cells slots) (hx : p.tables.exec = Jvm.exec) (hZ : Z.Warmed39 s.vm) {own : String} {index : Nat} {y : MethodName} {bytes : ByteArray} {maxL : Nat} {ret : Option FieldType}
    (hown : s.vm.findClass own = some m.cls) (w1 : (Cond.methodLink own index y).before a0 Z = true) (w2 : (Cond.static y).before a0 Z = true) (w3 : (Cond.initialized y.cls).before a0 Z = true)
    (w4 : (Cond.code y bytes maxL ret).before a0 Z = true) (hy : y.cls ≠ "java/lang/invoke/MethodHandle" ∧ y.cls ≠ "java/lang/invoke/VarHandle") {argsL rest : List Value} {W kc ks : Nat} (hK : SB l R p e below s args y 3 W argsL.toArray h Q kc ks) (eT : T.heap = h)
    {g : JFrame} (hg : g.method = m) (hsize : g.locals.size = c.maxLocals) (hlen : ∀ sig, parseMethodDescriptor y.desc = some sig → argsL.length = sig.parameters.length)
    (hstack : g.stack = argsL.reverse ++ rest) (hW : 2 * g.monitorRoom + (rest.map fun v => v.category).sum ≤ W) (hdg : decode c.code g.pc = .ok (.invokestatic index, 3)) (hc : cells + kc ≤ R.cells) (hs : slots + ks ≤ R.slots) :
    ∃ (v : Option Value) (T' : State) (h' : Heap) (L : List Loc), Stand p l e R s m args below meth c T' (locs ++ L) (cells + kc) (slots + ks) ∧ T'.heap = h' ∧ Q v h' L ∧
      ∀ target, Steps p.tables e below (T'.setTop { g with pc := g.pc + 3, stack := v.toList ++ rest }) target → Steps p.tables e below (T.setTop g) target := by
  obtain ⟨v, vm, ⟨T', L', k', n'⟩, -, X', ⟨L, hQ, l1, y1, z1⟩, st⟩ := Jvm.LawKit.callS X hx hown (mvT hZ w1) (mvT hZ w2) (mvT hZ w3) (mvT hZ w4) hy hK hg hsize hlen hstack hW hdg (fun _ _ => ⟨rfl, eT, hc, hs⟩)
  dsimp only [Pt.U, Pt.locs, Pt.cells, Pt.slots] at X' l1 y1 z1 st hQ
  subst l1 y1 z1
  exact ⟨v, T', _, L, X', rfl, hQ, st⟩
theorem specC (X : Stand p l e R s m args below meth c T locs cells slots) (hx : p.tables.exec = Jvm.exec) (hZ : Z.Warmed39 s.vm) {own : String} {index : Nat} {y : MethodName} {bytes : ByteArray} {maxL : Nat} (hy1 : y.name = "<init>")
    (hown : s.vm.findClass own = some m.cls) (w1 : (Cond.methodLink own index y).before a0 Z = true) (w2 : (Cond.instanceMethod y).before a0 Z = true)
    (w4 : (Cond.code y bytes maxL none).before a0 Z = true) (hy : y.cls ≠ "java/lang/invoke/MethodHandle" ∧ y.cls ≠ "java/lang/invoke/VarHandle") {a : Addr} {argsL rest : List Value} {W kc ks : Nat} (hK : SB l R p e below s args y 3 W (.ref a :: argsL).toArray h Q kc ks) (eT : T.heap = h)
    {g : JFrame} (hg : g.method = m) (hsize : g.locals.size = c.maxLocals) (hlen : ∀ sig, parseMethodDescriptor y.desc = some sig → argsL.length = sig.parameters.length)
    (hstack : g.stack = argsL.reverse ++ .ref a :: rest) (hW : 2 * g.monitorRoom + (rest.map fun v => v.category).sum ≤ W) (hdg : decode c.code g.pc = .ok (.invokespecial index, 3)) (hc : cells + kc ≤ R.cells) (hs : slots + ks ≤ R.slots) :
    ∃ (v : Option Value) (T' : State) (h' : Heap) (L : List Loc), Stand p l e R s m args below meth c T' (locs ++ L) (cells + kc) (slots + ks) ∧ T'.heap = h' ∧ Q v h' L ∧
      ∀ target, Steps p.tables e below (T'.setTop { g with pc := g.pc + 3, stack := v.toList ++ rest }) target → Steps p.tables e below (T.setTop g) target := by
  obtain ⟨v, vm, ⟨T', L', k', n'⟩, -, X', ⟨L, hQ, l1, y1, z1⟩, st⟩ := X.specialBack hx hy1 hown (mvT hZ w1) (mvT hZ w2) (mvT hZ w4) hy hK hg hsize (Steps.refl _) hlen hstack hW hdg (fun _ _ => ⟨rfl, eT, hc, hs⟩)
  dsimp only [Pt.U, Pt.locs, Pt.cells, Pt.slots] at X' l1 y1 z1 st hQ
  subst l1 y1 z1
  exact ⟨v, T', _, L, X', rfl, hQ, fun _ k => st.trans k⟩
theorem virtC (X : Stand p l e R s m args below meth c T locs cells slots) (hx : p.tables.exec = Jvm.exec) (hZ : Z.Warmed39 s.vm) {own C : String} {index : Nat} {y z : MethodName}
    (hown : s.vm.findClass own = some m.cls) (w1 : (Cond.methodLink own index y).before a0 Z = true) (w2 : (Cond.declares y).before a0 Z = true) (hnf : NotFace s y) (w3 : (Cond.selects C y z).before a0 Z = true) (w4 : (Cond.instanceMethod z).before a0 Z = true)
    (hy : y.cls ≠ "java/lang/invoke/MethodHandle" ∧ y.cls ≠ "java/lang/invoke/VarHandle") {a : Addr} {argsL rest : List Value} {W kc ks : Nat} (hK : SB l R p e below s args z 3 W (.ref a :: argsL).toArray h Q kc ks) (eT : T.heap = h) (E : Exa Z h a C)
    {g : JFrame} (hg : g.method = m) (hsize : g.locals.size = c.maxLocals) (hlen : ∀ sig, parseMethodDescriptor y.desc = some sig → argsL.length = sig.parameters.length)
    (hstack : g.stack = argsL.reverse ++ .ref a :: rest) (hW : 2 * g.monitorRoom + (rest.map fun v => v.category).sum ≤ W) (hdg : decode c.code g.pc = .ok (.invokevirtual index, 3)) (hc : cells + kc ≤ R.cells) (hs : slots + ks ≤ R.slots) :
    ∃ (v : Option Value) (T' : State) (h' : Heap) (L : List Loc), Stand p l e R s m args below meth c T' (locs ++ L) (cells + kc) (slots + ks) ∧ T'.heap = h' ∧ Q v h' L ∧
      ∀ target, Steps p.tables e below (T'.setTop { g with pc := g.pc + 3, stack := v.toList ++ rest }) target → Steps p.tables e below (T.setTop g) target := by
  obtain ⟨cq, kq, qa, qb, qc⟩ := isOf hZ eT E
  obtain ⟨v, vm, ⟨T', L', k', n'⟩, -, X', ⟨L, hQ, l1, y1, z1⟩, st⟩ := X.virtualBack hx hown (mvT hZ w1) (mvT hZ w2) hnf (mvT hZ w3) (mvT hZ w4) hy hK qa qc hg hsize (Steps.refl _) hlen hstack hW hdg (fun _ _ => ⟨rfl, eT, hc, hs⟩)
  dsimp only [Pt.U, Pt.locs, Pt.cells, Pt.slots] at X' l1 y1 z1 st hQ
  subst l1 y1 z1
  exact ⟨v, T', _, L, X', rfl, hQ, fun _ k => st.trans k⟩
theorem ne_arv {a b : Addr} {C : String} {k : Nat} {kc : ClassId} {ty : FieldType} {z : Int32} {vs : List Value} {d : Value} (F : Exa Z h a C) (wi : (Cond.instantiable C k).before a0 Z = true) (G : Arv Z h b kc ty z vs d) : a ≠ b := by
  obtain ⟨cl, A, -⟩ := G
  exact ne_arr F wi A
theorem ext_refl (h : Heap) : Ext h h := ⟨Nat.le_refl _, fun _ _ q => q⟩
theorem ext_trans (A : Ext h h') (B : Ext h' h2) : Ext h h2 := ⟨Nat.le_trans A.1 B.1, fun a c q => B.2 a c (A.2 a c q)⟩
theorem ext_keep {ws : List Addr} (O : Ext h h') (Kp : Keep h' h2 ws) (q : ∀ x ∈ ws, h.size ≤ x) : Ext h h2 := ⟨Nat.le_trans O.1 Kp.1, fun a c r => Kp.2.1 a c (O.2 a c r) fun z => absurd (Array.getElem?_eq_some_iff.mp r).1 (Nat.not_lt.mpr (q a z))⟩
theorem ext_wr {a : Addr} {sl : Nat} {v : Value} (O : Ext h h') (W : Wr h' h2 a sl v) (q : h.size ≤ a) : Ext h h2 := ext_keep O (Keep.of_wr W) (allS q all0)
theorem nf_sel {C : String} {y' z y : MethodName} {s : State} {args : Array Value} (w : (Cond.selects C y' z).before args s = true) (hz : z.cls = y.cls) : NotFace s y := fun r0 h0 => by
  obtain ⟨c2, r2, m2, q1, q2, q3, q4, kP, hkP, hkPi⟩ := Cond.selects_spec w
  have e1 := findClass_of_methodNamed h0
  have e2 := findClass_of_methodNamed q3
  rw [hz] at e2
  have e3 : m2.cls = r0.cls := Option.some.inj (e2.symm.trans e1)
  exact ⟨kP, e3 ▸ hkP, hkPi⟩
theorem shr0 (x : Int32) : x >>> ((0 : Int32) &&& 31) = x := by
  apply Int32.toBitVec_inj.mp
  rw [Int32.toBitVec_shiftRight]
  simp
theorem ofn_add (n k : Nat) : Int32.ofNat n + Int32.ofNat k = Int32.ofNat (n + k) := (Int32.ofNat_add n k).symm
theorem ofn_toInt {n : Nat} (h : n < 2 ^ 31) : (Int32.ofNat n).toInt = n := Int32.toInt_ofNat_small h
theorem ofn_clamp {n : Nat} (h : n < 2 ^ 31) : (Int32.ofNat n).toNatClampNeg = n := by simp only [Int32.toNatClampNeg, ofn_toInt h]; rfl
theorem ofn_nneg {n : Nat} (h : n < 2 ^ 31) : ¬ Int32.ofNat n < 0 := by
  rw [Int32.lt_iff_toInt_lt, ofn_toInt h]; show ¬ (n : Int) < 0; omega
theorem ofn_lt {n k : Nat} (hn : n < 2 ^ 31) (hk : k < 2 ^ 31) : Int32.ofNat n < Int32.ofNat k ↔ n < k := by
  rw [Int32.lt_iff_toInt_lt, ofn_toInt hn, ofn_toInt hk]; omega
theorem nar_char {x : Int32} (h : ¬ x < 0 ∧ ¬ (255 : Int32) < x) : nar .char x = x := by
  obtain ⟨h1, h2⟩ := h
  rw [Int32.lt_iff_toInt_lt] at h1 h2
  have e0 : (0 : Int32).toInt = 0 := rfl
  have e1 : (255 : Int32).toInt = 255 := rfl
  have q := c_i2c x
  show x.toUInt32.toUInt16.toUInt32.toInt32 = x
  apply Int32.toInt_inj.mp
  omega
theorem range_getD {us : List Value} {n : Nat} (h : us.length = n) (d : Value) : (List.range n).map (fun i => us.getD i d) = us := by
  subst h
  apply List.ext_getElem
  · simp
  · intro i h1 h2
    simp [List.getD_eq_getElem?_getD, h2]
theorem i2c255 {x : Int32} : ¬ (x &&& 255).toUInt32.toUInt16.toUInt32.toInt32 < 0 ∧ ¬ (255 : Int32) < (x &&& 255).toUInt32.toUInt16.toUInt32.toInt32 := by
  rw [i2c_mask]
  have q := c_and x 255 (by decide)
  have e0 : (0 : Int32).toInt = 0 := rfl
  have e1 : (255 : Int32).toInt = 255 := rfl
  rw [Int32.lt_iff_toInt_lt, Int32.lt_iff_toInt_lt]
  omega
end Own
end Jvm.RoadKit
namespace Jvm.RoadKit
open Sem ClassFile Op Lib Jvm.Stand Jvm.Free Jvm.LawKit
section Own2
variable {p : Program} {l : Launch} {e : Env} {R : Room} {s : State} {m : MethodId} {args : Array Value} {below : List Frame} {meth : Method} {c : Code} {T : State} {locs : List Loc} {cells slots : Nat} {Z : State} {a0 : Array Value} {h : Heap}
variable {Q : Option Value → Heap → List Loc → Prop}
end Own2
end Jvm.RoadKit
namespace Jvm.RoadKit
open Sem ClassFile Op Lib Bundle Jvm.Stand Jvm.Free Jvm.LawKit
section OwnH
variable {p : Program} {l : Launch} {e : Env} {R : Room} {s : State} {m : MethodId} {args : Array Value} {below : List Frame} {meth : Method} {c : Code} {T : State} {locs : List Loc} {cells slots : Nat} {Z : State} {a0 : Array Value} {h h' h2 : Heap} {EL : List (String × Nat)} {vm0 vm1 : Vm}
/-- what is left to show of a walk that may intern String constants -/
def OEndsH (p : Program) (e : Env) (below : List Frame) (Z : State) (EL : List (String × Nat)) (s : State) (K N : Nat) (Qf : Option Value → Heap → List Loc → Prop) (S : State) : Prop :=
  ∃ s₂ o, Steps p.tables e below S s₂ ∧ s₂.status = .running ∧ Ended s₂ below o ∧ ∃ v L, o = .returned v ∧ Qf v s₂.heap L ∧ CHr Z EL s.vm s.heap s₂.vm s₂.heap ∧ ReturnedEndW s o s₂ L K N
variable {K N : Nat} {Qf : Option Value → Heap → List Loc → Prop}
theorem OEndsH.st {S S' : State} (k : ∀ t, Steps p.tables e below S' t → Steps p.tables e below S t) (h : OEndsH p e below Z EL s K N Qf S') : OEndsH p e below Z EL s K N Qf S := by
  obtain ⟨s2, o, h1, r⟩ := h
  exact ⟨s2, o, k _ h1, r⟩
theorem OEndsH.cast {g g' : JFrame} (q : g = g') (k : OEndsH p e below Z EL s K N Qf (T.setTop g')) : OEndsH p e below Z EL s K N Qf (T.setTop g) := q ▸ k
theorem OEndsH.ret (X : Stand p l e R (s.setVm vm0) m args below meth c T locs cells slots) (hx : p.tables.exec = Jvm.exec) (hZ : Z.Warmed39 vm0) (hEL : EW Z a0 EL) (eT : T.heap = h) {k0 : Nat} (hS : s.Since vm0 k0) (hk : k0 ≤ h.size) (A : CHr Z EL s.vm s.heap vm0 h)
    {pc : Nat} {Ls : Array Slot} {w : Value} {t : FieldType} {i : Instr} {rest : List Value} (hret : meth.sig.returnType = some t) (hlk : meth.locks = false) (hn : narrow t w = w)
    (hi : (i = .ireturn ∧ (t = .int ∨ t = .boolean ∨ t = .byte ∨ t = .char ∨ t = .short) ∧ ∃ z, w = .int z) ∨ (i = .lreturn ∧ t = .long ∧ ∃ z, w = .long z) ∨ (i = .dreturn ∧ t = .double ∧ ∃ z, w = .double z) ∨ (i = .freturn ∧ t = .float ∧ ∃ z, w = .float z) ∨ (i = .areturn ∧ t.isReference = true ∧ w.isRef = true))
    (hd : decode c.code pc = .ok (i, 1)) (hc : cells ≤ K) (hs : slots ≤ N) (q : Qf (some w) h locs) : OEndsH p e below Z EL s K N Qf (T.setTop (mkF m pc Ls (w :: rest))) := by
  obtain ⟨fs, hr, hrun, hended, hW, hsame⟩ := X.leave (v := some w) (fun h => by rw [hret] at h; cases h) hlk
  subst eT
  obtain ⟨q1, q2, q3⟩ := hS.ended hW hk hsame
  have B := A.trans (CHv.at X hZ hEL A.1)
  exact ⟨_, _, retOut X hx hret hn hi hd hr, hrun, hended, _, _, rfl, q, B, ⟨_, rfl⟩, q1, q2, q3.mono hc hs⟩
theorem OEndsH.retV (X : Stand p l e R (s.setVm vm0) m args below meth c T locs cells slots) (hx : p.tables.exec = Jvm.exec) (hZ : Z.Warmed39 vm0) (hEL : EW Z a0 EL) (eT : T.heap = h) {k0 : Nat} (hS : s.Since vm0 k0) (hk : k0 ≤ h.size) (A : CHr Z EL s.vm s.heap vm0 h)
    {pc : Nat} {Ls : Array Slot} (hret : meth.sig.returnType = none) (hlk : meth.locks = false)
    (hd : decode c.code pc = .ok (.return_, 1)) (hc : cells ≤ K) (hs : slots ≤ N) (q : Qf none h locs) : OEndsH p e below Z EL s K N Qf (T.setTop (mkF m pc Ls [])) := by
  obtain ⟨fs, hr, hrun, hended, hW, hsame⟩ := X.leave (v := none) (fun _ => rfl) hlk
  subst eT
  obtain ⟨q1, q2, q3⟩ := hS.ended hW hk hsame
  have B := A.trans (CHv.at X hZ hEL A.1)
  exact ⟨_, _, X.returnOut hx hret hd hr, hrun, hended, _, _, rfl, q, B, ⟨_, rfl⟩, q1, q2, q3.mono hc hs⟩
/-- a contract whose body may intern; ss: the objects that stand ahead of it and that it writes, none of them a constant's -/
def ConH (l : Launch) (Z : State) (EL : List (String × Nat)) (y : MethodName) (bytes : ByteArray) (maxL : Nat) (ret : Option FieldType) (ws : List Cond) (rm : Room) (as' : Array Value) (h0 : Heap) (ss : List Addr) (Q : Option Value → Heap → List Loc → Prop) : Prop :=
  MetFree l y (head1 (Cond.code y bytes maxL ret :: ws) rm) (fun a U => a = as' ∧ Z.Warmed39 U.vm ∧ U.heap = h0 ∧ CHv Z EL U.vm h0 ∧ ∀ x ∈ ss, Safe Z EL U.vm h0 x) (fun _ _ _ _ _ => True) (fun _ U o U' => ∃ v L, o = .returned v ∧ Q v U'.heap L ∧ CHr Z EL U.vm U.heap U'.vm U'.heap ∧ ReturnedEndW U o U' L rm.cells rm.slots)
variable {y : MethodName} {bytes : ByteArray} {maxL : Nat} {ret : Option FieldType} {ws : List Cond} {rm : Room} {as' : Array Value} {h0 : Heap} {ss : List Addr} {Q : Option Value → Heap → List Loc → Prop}
theorem ConH.walk (hpl : plainFor y = true) (body : ∀ (p : Program) (e : Env) (s : State) (vm0 : Vm) (k0 : Nat) (m : MethodId) (below : List Frame) (meth : Method) (c : Code) (T : State), Stand p l e rm (s.setVm vm0) m as' below meth c T [] 0 0 → s.Since vm0 k0 → k0 ≤ h0.size → p.tables.exec = Jvm.exec → Z.Warmed39 vm0 → c.code = bytes → c.maxLocals = maxL →
      vm0.findClass y.cls = some m.cls → meth.name = y.name → meth.sig.returnType = ret → meth.locks = false → T.heap = h0 → CHr Z EL s.vm s.heap vm0 h0 → (∀ x ∈ ss, Safe Z EL vm0 h0 x) → OEndsH p e below Z EL s rm.cells rm.slots Q (T.setTop (entryFrame m as' maxL))) : ConH l Z EL y bytes maxL ret ws rm as' h0 ss Q := by
  refine MetFree.of_bodySF hpl hisR ?_
  intro p e s m args below meth c s₁ Bd hml0 hP hK
  obtain ⟨rfl, hZ, hh, hC, hs⟩ := hP
  have e1 : s₁.heap = h0 := by rw [← hh, Bd.state]; rfl
  exact body p e s s.vm 0 m below meth c s₁ (Stand.of_body Bd) ((State.WarmedH.refl s).since 0) (Nat.zero_le _) Bd.exec hZ Bd.bytes hml0 (findClass_of_methodNamed Bd.named) (name_of_methodNamed Bd.named Bd.method).1 Bd.returns Bd.notSynchronized e1 (by rw [hh]; exact CHr.refl hC) hs
/-- who pays a call that may intern -/
def SBH (l : Launch) (Z : State) (EL : List (String × Nat)) (R : Room) (p : Program) (e : Env) (below : List Frame) (s : State) (vm0 : Vm) (args : Array Value) (y : MethodName) (len W : Nat) (as' : Array Value) (h : Heap) (Q : Option Value → Heap → List Loc → Prop) (kc ks : Nat) : Prop :=
  BackS l R p e below (s.setVm vm0) args y len W (fun A a => a = as' ∧ A.U.heap = h ∧ A.cells + kc ≤ R.cells ∧ A.slots + ks ≤ R.slots) (fun A _ v B => ∃ L, Q v B.U.heap L ∧ B.locs = A.locs ++ L ∧ B.cells = A.cells + kc ∧ B.slots = A.slots + ks ∧ CHr Z EL vm0 h B.U.vm B.U.heap)
theorem ConH.sb {len W : Nat} (hM : ConH l Z EL y bytes maxL ret [] rm as' h ss Q) (hZ : Z.Warmed39 vm0) (wc : (Cond.code y bytes maxL ret).before a0 Z = true) (wz : (Cond.initialized y.cls).before a0 Z = true) (hf : rm.frames + 1 ≤ R.frames) (hl : W + (maxL + 11) + rm.locals ≤ R.locals) (hEL : EW Z a0 EL) (H : CHv Z EL vm0 h) (hss : ∀ x ∈ ss, x < h.size ∧ Safe Z EL vm0 h x) :
    SBH l Z EL R p e below s vm0 args y len W as' h Q rm.cells rm.slots :=
  BackS.of_freeW (bytes := bytes) (maxL := maxL) (ret := ret) (E := fun _ first o t L k n => k = rm.cells ∧ n = rm.slots ∧ (∃ v, o = .returned v ∧ Q v t.heap L) ∧ CHr Z EL first.vm first.heap t.vm t.heap) hM hf hl
    (fun m meth c A a Y hp => have hU : Z.Warmed39 A.U.vm := wtrans (s := s.setVm vm0) hZ Y.warmed
      ⟨by show (Cond.and _ .tt).before a A.U = true; rw [Cond.before_and, mv hU wc]; rfl, mv hU wc, mv hU wz, hp.2.2.1, hp.2.2.2⟩)
    (fun m meth c A a g mk Y hp => ⟨hp.1, wtrans (s := s.setVm vm0) hZ Y.warmed, hp.2.1, (CHv.at Y hZ hEL H).1, fun x hx => (CHv.at Y hZ hEL H).safe (hss x hx).1 (hss x hx).2⟩) (fun _ _ _ _ _ _ _ _ _ => trivial)
    (fun _ _ _ _ ⟨v, L, h1, h2, h3, h4⟩ => ⟨L, _, _, h4, rfl, rfl, ⟨v, h1, h2⟩, h3⟩)
    (fun m meth c A a g mk v t L k n Y hp _ _ ⟨e1, e2, ⟨v', e3, e4⟩, e5⟩ => by
      cases e3; subst e1 e2
      refine ⟨L, e4, rfl, rfl, rfl, (CHv.at Y hZ hEL H).trans ?_⟩
      rw [← hp.2.1]; exact e5)
theorem callH (X : Stand p l e R (s.setVm vm0) m args below meth c T locs cells slots) (hx : p.tables.exec = Jvm.exec) (hZ : Z.Warmed39 vm0) {own : String} {index : Nat} {y : MethodName} {bytes : ByteArray} {maxL : Nat} {ret : Option FieldType}
    (hown : vm0.findClass own = some m.cls) (w1 : (Cond.methodLink own index y).before a0 Z = true) (w2 : (Cond.static y).before a0 Z = true) (w3 : (Cond.initialized y.cls).before a0 Z = true)
    (w4 : (Cond.code y bytes maxL ret).before a0 Z = true) (hy : y.cls ≠ "java/lang/invoke/MethodHandle" ∧ y.cls ≠ "java/lang/invoke/VarHandle") {argsL rest : List Value} {W kc ks : Nat} (hK : SBH l Z EL R p e below s vm0 args y 3 W argsL.toArray h Q kc ks) (eT : T.heap = h) {k0 : Nat} (hS : s.Since vm0 k0) (hk : k0 ≤ h.size)
    {g : JFrame} (hg : g.method = m) (hsize : g.locals.size = c.maxLocals) (hlen : ∀ sig, parseMethodDescriptor y.desc = some sig → argsL.length = sig.parameters.length)
    (hstack : g.stack = argsL.reverse ++ rest) (hW : 2 * g.monitorRoom + (rest.map fun v => v.category).sum ≤ W) (hdg : decode c.code g.pc = .ok (.invokestatic index, 3)) (hc : cells + kc ≤ R.cells) (hs : slots + ks ≤ R.slots) :
    ∃ (v : Option Value) (T' : State) (h' : Heap) (L : List Loc) (vm1 : Vm) (k1 : Nat), Stand p l e R (s.setVm vm1) m args below meth c T' (locs ++ L) (cells + kc) (slots + ks) ∧ T'.heap = h' ∧ Q v h' L ∧ s.Since vm1 k1 ∧ k1 ≤ h'.size ∧ Z.Warmed39 vm1 ∧ vm1.findClass own = some m.cls ∧ CHr Z EL vm0 h vm1 h' ∧
      ∀ target, Steps p.tables e below (T'.setTop { g with pc := g.pc + 3, stack := v.toList ++ rest }) target → Steps p.tables e below (T.setTop g) target := by
  obtain ⟨v, vm, ⟨T', L', k', n'⟩, -, X', hS', hgr, ⟨L, hQ, l1, y1, z1, A⟩, st⟩ := callSS X hx hown (mvT (s := s.setVm vm0) hZ w1) (mvT (s := s.setVm vm0) hZ w2) (mvT (s := s.setVm vm0) hZ w3) (mvT (s := s.setVm vm0) hZ w4) hy hK hg hsize hlen hstack hW hdg (fun _ _ => ⟨rfl, eT, hc, hs⟩)
  dsimp only [Pt.U, Pt.locs, Pt.cells, Pt.slots] at X' l1 y1 z1 st hQ hS' hgr A
  subst l1 y1 z1 eT
  exact ⟨v, T', _, L, T'.vm, _, X', rfl, hQ, hS.trans hS' (Nat.le_trans hk hgr), Nat.le_refl _, State.Warmed39.trans (t := s.setVm vm0) hZ hS'.1, by rw [hS'.1.alike.findClass]; exact hown, A, fun _ k => st.trans k⟩
theorem specH (X : Stand p l e R (s.setVm vm0) m args below meth c T locs cells slots) (hx : p.tables.exec = Jvm.exec) (hZ : Z.Warmed39 vm0) {own : String} {index : Nat} {y : MethodName} {bytes : ByteArray} {maxL : Nat} (hy1 : y.name = "<init>")
    (hown : vm0.findClass own = some m.cls) (w1 : (Cond.methodLink own index y).before a0 Z = true) (w2 : (Cond.instanceMethod y).before a0 Z = true)
    (w4 : (Cond.code y bytes maxL none).before a0 Z = true) (hy : y.cls ≠ "java/lang/invoke/MethodHandle" ∧ y.cls ≠ "java/lang/invoke/VarHandle") {a : Addr} {argsL rest : List Value} {W kc ks : Nat} (hK : SBH l Z EL R p e below s vm0 args y 3 W (.ref a :: argsL).toArray h Q kc ks) (eT : T.heap = h) {k0 : Nat} (hS : s.Since vm0 k0) (hk : k0 ≤ h.size)
    {g : JFrame} (hg : g.method = m) (hsize : g.locals.size = c.maxLocals) (hlen : ∀ sig, parseMethodDescriptor y.desc = some sig → argsL.length = sig.parameters.length)
    (hstack : g.stack = argsL.reverse ++ .ref a :: rest) (hW : 2 * g.monitorRoom + (rest.map fun v => v.category).sum ≤ W) (hdg : decode c.code g.pc = .ok (.invokespecial index, 3)) (hc : cells + kc ≤ R.cells) (hs : slots + ks ≤ R.slots) :
    ∃ (v : Option Value) (T' : State) (h' : Heap) (L : List Loc) (vm1 : Vm) (k1 : Nat), Stand p l e R (s.setVm vm1) m args below meth c T' (locs ++ L) (cells + kc) (slots + ks) ∧ T'.heap = h' ∧ Q v h' L ∧ s.Since vm1 k1 ∧ k1 ≤ h'.size ∧ Z.Warmed39 vm1 ∧ vm1.findClass own = some m.cls ∧ CHr Z EL vm0 h vm1 h' ∧
      ∀ target, Steps p.tables e below (T'.setTop { g with pc := g.pc + 3, stack := v.toList ++ rest }) target → Steps p.tables e below (T.setTop g) target := by
  obtain ⟨v, vm, ⟨T', L', k', n'⟩, -, X', hS', hgr, ⟨L, hQ, l1, y1, z1, A⟩, st⟩ := X.specialBackS hx hy1 hown (mvT (s := s.setVm vm0) hZ w1) (mvT (s := s.setVm vm0) hZ w2) (mvT (s := s.setVm vm0) hZ w4) hy hK hg hsize (Steps.refl _) hlen hstack hW hdg (fun _ _ => ⟨rfl, eT, hc, hs⟩)
  dsimp only [Pt.U, Pt.locs, Pt.cells, Pt.slots] at X' l1 y1 z1 st hQ hS' hgr A
  subst l1 y1 z1 eT
  exact ⟨v, T', _, L, T'.vm, _, X', rfl, hQ, hS.trans hS' (Nat.le_trans hk hgr), Nat.le_refl _, State.Warmed39.trans (t := s.setVm vm0) hZ hS'.1, by rw [hS'.1.alike.findClass]; exact hown, A, fun _ k => st.trans k⟩
theorem virtH (X : Stand p l e R (s.setVm vm0) m args below meth c T locs cells slots) (hx : p.tables.exec = Jvm.exec) (hZ : Z.Warmed39 vm0) {own C : String} {index : Nat} {y z : MethodName}
    (hown : vm0.findClass own = some m.cls) (w1 : (Cond.methodLink own index y).before a0 Z = true) (w2 : (Cond.declares y).before a0 Z = true) (hnf : NotFace (s.setVm vm0) y) (w3 : (Cond.selects C y z).before a0 Z = true) (w4 : (Cond.instanceMethod z).before a0 Z = true)
    (hy : y.cls ≠ "java/lang/invoke/MethodHandle" ∧ y.cls ≠ "java/lang/invoke/VarHandle") {a : Addr} {argsL rest : List Value} {W kc ks : Nat} (hK : SBH l Z EL R p e below s vm0 args z 3 W (.ref a :: argsL).toArray h Q kc ks) (eT : T.heap = h) {k0 : Nat} (hS : s.Since vm0 k0) (hk : k0 ≤ h.size) (E : Exa Z h a C)
    {g : JFrame} (hg : g.method = m) (hsize : g.locals.size = c.maxLocals) (hlen : ∀ sig, parseMethodDescriptor y.desc = some sig → argsL.length = sig.parameters.length)
    (hstack : g.stack = argsL.reverse ++ .ref a :: rest) (hW : 2 * g.monitorRoom + (rest.map fun v => v.category).sum ≤ W) (hdg : decode c.code g.pc = .ok (.invokevirtual index, 3)) (hc : cells + kc ≤ R.cells) (hs : slots + ks ≤ R.slots) :
    ∃ (v : Option Value) (T' : State) (h' : Heap) (L : List Loc) (vm1 : Vm) (k1 : Nat), Stand p l e R (s.setVm vm1) m args below meth c T' (locs ++ L) (cells + kc) (slots + ks) ∧ T'.heap = h' ∧ Q v h' L ∧ s.Since vm1 k1 ∧ k1 ≤ h'.size ∧ Z.Warmed39 vm1 ∧ vm1.findClass own = some m.cls ∧ CHr Z EL vm0 h vm1 h' ∧
      ∀ target, Steps p.tables e below (T'.setTop { g with pc := g.pc + 3, stack := v.toList ++ rest }) target → Steps p.tables e below (T.setTop g) target := by
  obtain ⟨cq, kq, qa, qb, qc⟩ := isOf (s := s.setVm vm0) hZ eT E
  obtain ⟨v, vm, ⟨T', L', k', n'⟩, -, X', hS', hgr, ⟨L, hQ, l1, y1, z1, A⟩, st⟩ := X.virtualBackS hx hown (mvT (s := s.setVm vm0) hZ w1) (mvT (s := s.setVm vm0) hZ w2) hnf (mvT (s := s.setVm vm0) hZ w3) (mvT (s := s.setVm vm0) hZ w4) hy hK qa qc hg hsize (Steps.refl _) hlen hstack hW hdg (fun _ _ => ⟨rfl, eT, hc, hs⟩)
  dsimp only [Pt.U, Pt.locs, Pt.cells, Pt.slots] at X' l1 y1 z1 st hQ hS' hgr A
  subst l1 y1 z1 eT
  exact ⟨v, T', _, L, T'.vm, _, X', rfl, hQ, hS.trans hS' (Nat.le_trans hk hgr), Nat.le_refl _, State.Warmed39.trans (t := s.setVm vm0) hZ hS'.1, by rw [hS'.1.alike.findClass]; exact hown, A, fun _ k => st.trans k⟩
end OwnH
end Jvm.RoadKit
namespace Jvm.RoadKit
open Sem ClassFile Op Lib Jvm.Stand Jvm.Free Jvm.LawKit
section OwnJ
variable {p : Program} {e : Env} {below : List Frame} {P : State → Prop} {S S' : State}
/-- the walk from S comes to a place where P stands (two roads may meet there) -/
def OJ (p : Program) (e : Env) (below : List Frame) (P : State → Prop) (S : State) : Prop := ∃ S', P S' ∧ ∀ t, Steps p.tables e below S' t → Steps p.tables e below S t
theorem OJ.st (k : ∀ t, Steps p.tables e below S' t → Steps p.tables e below S t) (h : OJ p e below P S') : OJ p e below P S := by
  obtain ⟨s2, h1, h2⟩ := h
  exact ⟨s2, h1, fun t q => k t (h2 t q)⟩
theorem OJ.here (h : P S) : OJ p e below P S := ⟨S, h, fun _ q => q⟩
theorem of_rng {x : Int32} {n : Nat} (h : 0 ≤ x.toInt) (h2 : x.toInt < n) (hn : n < 2 ^ 31) : ∃ k : Nat, k < n ∧ x = Int32.ofNat k := by
  refine ⟨x.toInt.toNat, by omega, Int32.toInt_inj.mp ?_⟩
  rw [Int32.toInt_ofNat_small (by omega)]; omega
end OwnJ
end Jvm.RoadKit
/- laws to paste: Road.backV, Road.eqW (cut by pick.py; bodies as the Statement names them) -/
namespace Jvm.Pilot.@@N@@
namespace StrChars
open Jvm Sem ClassFile Op Lib Jvm.Stand Jvm.Free.XT Jvm.Free.ALB Jvm.Free.JM Jvm.Free
open Jvm.Lib.Cold (StaticIs)
/-- a char array whose places are chars -/
def Ch (a : Addr) (A : Cell) (U : State) : Prop := Arr .char a A U ∧ Typed .char A
theorem Ch.mv {a : Addr} {A : Cell} {U U' : State} (h : Ch a A U) (hal : U.vm.Alike U'.vm) (hh : U'.heap = U.heap) : Ch a A U' := ⟨h.1.mv hal hh, h.2⟩
theorem Ch.keep {a : Addr} {A : Cell} {U U' : State} (h : Ch a A U) (hal : U.vm.Alike U'.vm) (hk : U'.heap[a]? = some A) : Ch a A U' := ⟨h.1.keep hal hk, h.2⟩
/-- what place i of a char[]'s cell holds -/
def cv (A : Cell) (i : Nat) : Int32 := match A.slots[i]? with | some (.int x) => x | _ => 0
theorem Ch.get {a : Addr} {A : Cell} {U : State} (h : Ch a A U) {i : Nat} (hi : i < A.slots.size) : A.slots[i]? = some (.int (cv A i)) := by
  have e := Array.getElem?_eq_getElem hi
  have f := h.2 i _ e
  unfold cv; rw [e]
  generalize A.slots[i] = v at f
  cases v <;> simp [fits] at f ⊢
/-- the byte that i2b leaves of a char -/
def lo8 (x : Int32) : Int32 := x.toInt8.toInt32
theorem fits_lo8 (y : Int32) : fits .byte (.int (lo8 y)) = true := by
  have h1 := y.toInt8.le_toInt
  have h2 := y.toInt8.toInt_lt
  simp only [lo8, fits, Bool.and_eq_true, decide_eq_true_eq, Int32.le_iff_toInt_le, Int8.toInt_toInt32, show (-128 : Int32).toInt = -128 from by decide, show (127 : Int32).toInt = 127 from by decide]
  omega
/-- A' is A but that each place j of lo .. hi - 1 holds f j -/
def Laid (A A' : Cell) (lo hi : Nat) (f : Nat → Value) : Prop := A'.cls = A.cls ∧ A'.vm = A.vm ∧ A'.slots.size = A.slots.size ∧ ∀ i, A'.slots[i]? = if lo ≤ i ∧ i < hi then some (f i) else A.slots[i]?
theorem Laid.zero (A : Cell) (lo : Nat) (f : Nat → Value) : Laid A A lo (lo + 0) f := ⟨rfl, rfl, rfl, fun i => by rw [if_neg (by omega)]⟩
theorem Laid.step {A Ak : Cell} {lo k : Nat} {f : Nat → Value} {v : Value} (h : Laid A Ak lo k f) (hlo : lo ≤ k) (hk : k < Ak.slots.size) (hv : v = f k) : Laid A (Ak.setSlot k v) lo (k + 1) f := by
  refine ⟨h.1, h.2.1, by simpa [Cell.setSlot] using h.2.2.1, fun i => ?_⟩
  by_cases e : k = i
  · subst e; rw [Cell.slots_setSlot_self v hk, if_pos (by omega), hv]
  · rw [Cell.slots_setSlot_ne v e, h.2.2.2 i]
    by_cases q : lo ≤ i ∧ i < k
    · rw [if_pos q, if_pos (by omega)]
    · rw [if_neg q, if_neg (by omega)]
def U16 : String := "java/lang/StringUTF16"
namespace Cmp5
def yN : MethodName := ⟨"java/lang/StringUTF16", "compress", "([CI[BII)I"⟩
abbrev yB : ByteArray := jdk_52_method_21_code
theorem d0 : decode yB 0 = .ok (.iconst 0, 1) := by decide +kernel
theorem d1 : decode yB 1 = .ok (.istore 5, 2) := by decide +kernel
theorem d3 : decode yB 3 = .ok (.iload 5, 2) := by decide +kernel
theorem d5 : decode yB 5 = .ok (.iload 4, 2) := by decide +kernel
theorem d7 : decode yB 7 = .ok (.if_icmp (.ge) 37, 3) := by decide +kernel
theorem d10 : decode yB 10 = .ok (.aload_n 0, 1) := by decide +kernel
theorem d11 : decode yB 11 = .ok (.iload_n 1, 1) := by decide +kernel
theorem d12 : decode yB 12 = .ok (.caload, 1) := by decide +kernel
theorem d13 : decode yB 13 = .ok (.istore 6, 2) := by decide +kernel
theorem d15 : decode yB 15 = .ok (.iload 6, 2) := by decide +kernel
theorem d17 : decode yB 17 = .ok (.sipush 255, 3) := by decide +kernel
theorem d20 : decode yB 20 = .ok (.if_icmp (.le) 6, 3) := by decide +kernel
theorem d26 : decode yB 26 = .ok (.aload_n 2, 1) := by decide +kernel
theorem d27 : decode yB 27 = .ok (.iload_n 3, 1) := by decide +kernel
theorem d28 : decode yB 28 = .ok (.iload 6, 2) := by decide +kernel
theorem d30 : decode yB 30 = .ok (.i2b, 1) := by decide +kernel
theorem d31 : decode yB 31 = .ok (.bastore, 1) := by decide +kernel
theorem d32 : decode yB 32 = .ok (.iinc 1 1, 3) := by decide +kernel
theorem d35 : decode yB 35 = .ok (.iinc 3 1, 3) := by decide +kernel
theorem d38 : decode yB 38 = .ok (.iinc 5 1, 3) := by decide +kernel
theorem d41 : decode yB 41 = .ok (.goto (-38), 3) := by decide +kernel
theorem d44 : decode yB 44 = .ok (.iload 4, 2) := by decide +kernel
theorem d46 : decode yB 46 = .ok (.ireturn, 1) := by decide +kernel
def site : List Cond := []
def tab : Cond := tabOf yN yB 7 (some .int) site
def P (b : Addr) (A : Cell) (d : Addr) (B : Cell) (o q len : Nat) (args : Array Value) (s : State) : Prop := args = #[.ref b, .int (Int32.ofNat o), .ref d, .int (Int32.ofNat q), .int (Int32.ofNat len)] ∧ Ch b A s ∧ Arr .byte d B s ∧ b ≠ d ∧ o + len ≤ A.slots.size ∧ q + len ≤ B.slots.size ∧ ∀ i, i < len → ¬ 255 < cv A (o + i)
def E (b : Addr) (A : Cell) (d : Addr) (B : Cell) (o q len : Nat) (r : Option Value) (s u : State) : Prop := r = some (.int (Int32.ofNat len)) ∧ ∃ B', Put d B' s u ∧ Laid B B' q (q + len) (fun j => Value.int (lo8 (cv A (o + (j - q)))))
/-- no char of the range above 255: len; the places written hold each char's low byte -/
theorem law (l : Launch) (b : Addr) (A : Cell) (d : Addr) (B : Cell) (o q len : Nat) : Law l yN 5 5 0 0 yB 7 (some .int) site (P b A d B o q len) (E b A d B o q len) (copyLocs d q len) 0 0 := by
  refine Law.of_walk (plainFor_of_name (by decide +kernel)) (by decide +kernel) (by decide +kernel) (by decide) (fun _ _ h => by rw [h.1]; rfl) (fun _ U U' hal hh h => ⟨h.1, h.2.1.mv hal hh, h.2.2.1.mv hal hh, h.2.2.2⟩) (fun r U U' V V' h1 hal h2 h => ⟨h.1, h.2.elim fun B' q => ⟨B', q.1.mv h1 h2, q.2⟩⟩) ?_
  intro p e s m args below meth c s₁ X0 hexec hbytes hml hret hlk hnm hown hh0 W hP
  obtain ⟨rfl, hA, hB, hne, l1, l2, hp⟩ := hP
  have c1 : Steps p.tables e below (s₁.setTop (entryFrame m #[.ref b, .int (Int32.ofNat o), .ref d, .int (Int32.ofNat q), .int (Int32.ofNat len)] 7)) (s₁.setTop (mkF m 0 #[.val (.ref b), .val (.int (Int32.ofNat o)), .val (.ref d), .val (.int (Int32.ofNat q)), .val (.int (Int32.ofNat len)), .unset, .unset] [])) := entry rfl
  have hA0 := hA.1.mv X0.warmed.alike hh0
  have hB0 := hB.mv X0.warmed.alike hh0
  have a31 := hA.1.2.2.2
  have c2 : Steps p.tables e below (s₁.setTop (entryFrame m #[.ref b, .int (Int32.ofNat o), .ref d, .int (Int32.ofNat q), .int (Int32.ofNat len)] 7)) (s₁.setTop (mkF m 3 #[.val (.ref b), .val (.int (Int32.ofNat o)), .val (.ref d), .val (.int (Int32.ofNat q)), .val (.int (Int32.ofNat len)), .val (.int 0), .unset] [])) := c1.trans (by
    refine iconstV X0.here hexec rfl 0 (hb hbytes d0) (by decide) ?_
    refine XS.istore X0.here hexec rfl (hb hbytes d1) rfl rfl ?_
    exact Steps.refl _)
  have loop : ∀ (r i : Nat), i + r = len → ∀ (z : Slot), (z = .unset ∨ ∃ w, z = .val w ∧ w.category = 1) → ∀ (Tl : State) (Bk : Cell), Stand p l e { frames := 0, locals := 0, cells := 0, slots := 0 } s m #[.ref b, .int (Int32.ofNat o), .ref d, .int (Int32.ofNat q), .int (Int32.ofNat len)] below meth c Tl ([] ++ copyLocs d q i) 0 0 → Put d Bk s₁ Tl → Laid B Bk q (q + i) (fun j => Value.int (lo8 (cv A (o + (j - q))))) →
      Steps p.tables e below (s₁.setTop (entryFrame m #[.ref b, .int (Int32.ofNat o), .ref d, .int (Int32.ofNat q), .int (Int32.ofNat len)] 7)) (Tl.setTop (mkF m 3 #[.val (.ref b), .val (.int (Int32.ofNat (o + i))), .val (.ref d), .val (.int (Int32.ofNat (q + i))), .val (.int (Int32.ofNat len)), .val (.int (Int32.ofNat i)), z] [])) → ∃ (T' : State) (B' : Cell) (z' : Slot), Stand p l e { frames := 0, locals := 0, cells := 0, slots := 0 } s m #[.ref b, .int (Int32.ofNat o), .ref d, .int (Int32.ofNat q), .int (Int32.ofNat len)] below meth c T' ([] ++ copyLocs d q len) 0 0 ∧ Put d B' s₁ T' ∧ Laid B B' q (q + len) (fun j => Value.int (lo8 (cv A (o + (j - q))))) ∧
      Steps p.tables e below (s₁.setTop (entryFrame m #[.ref b, .int (Int32.ofNat o), .ref d, .int (Int32.ofNat q), .int (Int32.ofNat len)] 7)) (T'.setTop (mkF m 3 #[.val (.ref b), .val (.int (Int32.ofNat (o + len))), .val (.ref d), .val (.int (Int32.ofNat (q + len))), .val (.int (Int32.ofNat len)), .val (.int (Int32.ofNat len)), z'] [])) := by
    intro r
    induction r with
    | zero =>
      intro i hi z hz Tl Bk Xl pl fl cl
      have hil : i = len := by omega
      rw [hil] at Xl fl cl
      exact ⟨Tl, Bk, z, Xl, pl, fl, cl⟩
    | succ r ih =>
      intro i hi z hz Tl Bk Xl pl fl cl
      have all := X0.warmed.alike.symm.trans Xl.warmed.alike
      have hAl := hA0.keep all (pl.other hne hA0.1)
      have hBk := hB0.like all pl.1 fl.1 fl.2.1 fl.2.2.1
      have hlt : q + i < Bk.slots.size := by rw [fl.2.2.1]; omega
      have c3 : Steps p.tables e below (s₁.setTop (entryFrame m #[.ref b, .int (Int32.ofNat o), .ref d, .int (Int32.ofNat q), .int (Int32.ofNat len)] 7)) (Tl.setTop (mkF m 12 #[.val (.ref b), .val (.int (Int32.ofNat (o + i))), .val (.ref d), .val (.int (Int32.ofNat (q + i))), .val (.int (Int32.ofNat len)), .val (.int (Int32.ofNat i)), z] [.int (Int32.ofNat (o + i)), .ref b])) := cl.trans (by
        refine XS.iload Xl.here hexec rfl (hb hbytes d3) rfl ?_
        refine XS.iload Xl.here hexec rfl (hb hbytes d5) rfl ?_
        refine XS.icmpNo Xl.here hexec rfl (hb hbytes d7) rfl (ii_ge_f (lt32 (by omega) (by omega))) ?_
        refine XS.aloadN Xl.here hexec rfl (hb hbytes d10) rfl rfl ?_
        refine XS.iloadN Xl.here hexec rfl (hb hbytes d11) rfl ?_
        exact Steps.refl _)
      have c4 : Steps p.tables e below (s₁.setTop (entryFrame m #[.ref b, .int (Int32.ofNat o), .ref d, .int (Int32.ofNat q), .int (Int32.ofNat len)] 7)) (Tl.setTop (mkF m 13 #[.val (.ref b), .val (.int (Int32.ofNat (o + i))), .val (.ref d), .val (.int (Int32.ofNat (q + i))), .val (.int (Int32.ofNat len)), .val (.int (Int32.ofNat i)), z] [.int (cv A (o + i))])) := c3.trans (by
        refine Xl.aget hexec hAl rfl (hA.get (i := o + i) (by omega)) rfl rfl (hb hbytes d12) ?_
        exact Steps.refl _)
      have c5 : Steps p.tables e below (s₁.setTop (entryFrame m #[.ref b, .int (Int32.ofNat o), .ref d, .int (Int32.ofNat q), .int (Int32.ofNat len)] 7)) (Tl.setTop (mkF m 15 #[.val (.ref b), .val (.int (Int32.ofNat (o + i))), .val (.ref d), .val (.int (Int32.ofNat (q + i))), .val (.int (Int32.ofNat len)), .val (.int (Int32.ofNat i)), .val (.int (cv A (o + i)))] [])) := c4.trans (by
        refine XS.istoreS Xl.here hexec rfl (hb hbytes d13) rfl rfl hz ?_
        exact Steps.refl _)
      have c6 : Steps p.tables e below (s₁.setTop (entryFrame m #[.ref b, .int (Int32.ofNat o), .ref d, .int (Int32.ofNat q), .int (Int32.ofNat len)] 7)) (Tl.setTop (mkF m 31 #[.val (.ref b), .val (.int (Int32.ofNat (o + i))), .val (.ref d), .val (.int (Int32.ofNat (q + i))), .val (.int (Int32.ofNat len)), .val (.int (Int32.ofNat i)), .val (.int (cv A (o + i)))] [.int (lo8 (cv A (o + i))), .int (Int32.ofNat (q + i)), .ref d])) := c5.trans (by
        refine XS.iload Xl.here hexec rfl (hb hbytes d15) rfl ?_
        refine sipushV Xl.here hexec rfl 255 (hb hbytes d17) (by decide) ?_
        refine XS.icmpYes Xl.here hexec rfl (pc0 := 20) rfl (hb hbytes d20) rfl (ii_le_t (hp i (by omega))) (by decide) rfl ?_
        refine XS.aloadN Xl.here hexec rfl (hb hbytes d26) rfl rfl ?_
        refine XS.iloadN Xl.here hexec rfl (hb hbytes d27) rfl ?_
        refine XS.iload Xl.here hexec rfl (hb hbytes d28) rfl ?_
        refine i2b Xl.here hexec rfl (hb hbytes d30) rfl ?_
        exact Steps.refl _)
      obtain ⟨T7, X7, p7, st7⟩ := Xl.aput hexec hBk rfl hlt rfl (fits_lo8 (cv A (o + i))) (g := (mkF m 31 #[.val (.ref b), .val (.int (Int32.ofNat (o + i))), .val (.ref d), .val (.int (Int32.ofNat (q + i))), .val (.int (Int32.ofNat len)), .val (.int (Int32.ofNat i)), .val (.int (cv A (o + i)))] [.int (lo8 (cv A (o + i))), .int (Int32.ofNat (q + i)), .ref d])) rfl (rest := []) rfl (hb hbytes d31)
      have c8 : Steps p.tables e below (s₁.setTop (entryFrame m #[.ref b, .int (Int32.ofNat o), .ref d, .int (Int32.ofNat q), .int (Int32.ofNat len)] 7)) (T7.setTop (mkF m 32 #[.val (.ref b), .val (.int (Int32.ofNat (o + i))), .val (.ref d), .val (.int (Int32.ofNat (q + i))), .val (.int (Int32.ofNat len)), .val (.int (Int32.ofNat i)), .val (.int (cv A (o + i)))] [])) := c6.trans (st7 _ (Steps.refl _))
      have c9 : Steps p.tables e below (s₁.setTop (entryFrame m #[.ref b, .int (Int32.ofNat o), .ref d, .int (Int32.ofNat q), .int (Int32.ofNat len)] 7)) (T7.setTop (mkF m 3 #[.val (.ref b), .val (.int (Int32.ofNat (o + i) + 1)), .val (.ref d), .val (.int (Int32.ofNat (q + i) + 1)), .val (.int (Int32.ofNat len)), .val (.int (Int32.ofNat i + 1)), .val (.int (cv A (o + i)))] [])) := c8.trans (by
        refine iincV X7.here hexec rfl 1 (hb hbytes d32) (by decide) rfl rfl ?_
        refine iincV X7.here hexec rfl 1 (hb hbytes d35) (by decide) rfl rfl ?_
        refine iincV X7.here hexec rfl 1 (hb hbytes d38) (by decide) rfl rfl ?_
        refine XS.goto X7.here hexec rfl (pc0 := 41) rfl (hb hbytes d41) (by decide) rfl ?_
        exact Steps.refl _)
      have c10 : Steps p.tables e below (s₁.setTop (entryFrame m #[.ref b, .int (Int32.ofNat o), .ref d, .int (Int32.ofNat q), .int (Int32.ofNat len)] 7)) (T7.setTop (mkF m 3 #[.val (.ref b), .val (.int (Int32.ofNat (o + (i + 1)))), .val (.ref d), .val (.int (Int32.ofNat (q + (i + 1)))), .val (.int (Int32.ofNat len)), .val (.int (Int32.ofNat (i + 1))), .val (.int (cv A (o + i)))] [])) := by
        have := c9
        rw [succ32, succ32, succ32] at this
        exact this
      exact ih (i + 1) (by omega) _ (Or.inr ⟨_, rfl, rfl⟩) T7 _ (by rw [copyLocs_step, ← List.append_assoc]; exact X7) (pl.trans p7) (fl.step (by omega) hlt (by simp)) c10
  obtain ⟨T9, B9, z9, X9, p9, f9, g9⟩ := loop len 0 (by omega) .unset (Or.inl rfl) s₁ B (by simpa [copyLocs] using X0) ⟨hB0.1, fun _ _ => rfl, rfl⟩ (Laid.zero _ _ _) c2
  have c11 : Steps p.tables e below (s₁.setTop (entryFrame m #[.ref b, .int (Int32.ofNat o), .ref d, .int (Int32.ofNat q), .int (Int32.ofNat len)] 7)) (T9.setTop (mkF m 46 #[.val (.ref b), .val (.int (Int32.ofNat (o + len))), .val (.ref d), .val (.int (Int32.ofNat (q + len))), .val (.int (Int32.ofNat len)), .val (.int (Int32.ofNat len)), z9] [.int (Int32.ofNat len)])) := g9.trans (by
    refine XS.iload X9.here hexec rfl (hb hbytes d3) rfl ?_
    refine XS.iload X9.here hexec rfl (hb hbytes d5) rfl ?_
    refine XS.icmpYes X9.here hexec rfl (pc0 := 7) rfl (hb hbytes d7) rfl (ii_ge_t (nlt32 (by omega) (Nat.le_refl _))) (by decide) rfl ?_
    refine XS.iload X9.here hexec rfl (hb hbytes d44) rfl ?_
    exact Steps.refl _)
  exact ⟨T9, some (.int (Int32.ofNat len)), _, _, _, X9, by simp, rfl, rfl, (fun h => by cases h), ⟨rfl, B9, p9.from hh0, f9⟩, fun fs hl => c11.trans (X9.ireturnOut hexec hret rfl (Or.inl rfl) (hb hbytes d46) hl)⟩
end Cmp5
namespace Cmp3
def yN : MethodName := ⟨"java/lang/StringUTF16", "compress", "([CII)[B"⟩
abbrev yB : ByteArray := jdk_52_method_16_code
theorem d0 : decode yB 0 = .ok (.iload_n 2, 1) := by decide +kernel
theorem d1 : decode yB 1 = .ok (.newarray .byte, 2) := by decide +kernel
theorem d3 : decode yB 3 = .ok (.astore_n 3, 1) := by decide +kernel
theorem d4 : decode yB 4 = .ok (.aload_n 0, 1) := by decide +kernel
theorem d5 : decode yB 5 = .ok (.iload_n 1, 1) := by decide +kernel
theorem d6 : decode yB 6 = .ok (.aload_n 3, 1) := by decide +kernel
theorem d7 : decode yB 7 = .ok (.iconst 0, 1) := by decide +kernel
theorem d8 : decode yB 8 = .ok (.iload_n 2, 1) := by decide +kernel
theorem d9 : decode yB 9 = .ok (.invokestatic 115, 3) := by decide +kernel
theorem d12 : decode yB 12 = .ok (.istore 4, 2) := by decide +kernel
theorem d14 : decode yB 14 = .ok (.iload 4, 2) := by decide +kernel
theorem d16 : decode yB 16 = .ok (.iload_n 2, 1) := by decide +kernel
theorem d17 : decode yB 17 = .ok (.if_icmp (.eq) 40, 3) := by decide +kernel
theorem d57 : decode yB 57 = .ok (.aload_n 3, 1) := by decide +kernel
theorem d58 : decode yB 58 = .ok (.areturn, 1) := by decide +kernel
def site : List Cond := [.arrayClass .byte, Cmp5.tab] ++ staticW U16 115 Cmp5.yN
def tab : Cond := tabOf yN yB 6 (some (.array .byte)) site
def P (b : Addr) (A : Cell) (o len : Nat) (args : Array Value) (s : State) : Prop := args = #[.ref b, .int (Int32.ofNat o), .int (Int32.ofNat len)] ∧ Ch b A s ∧ o + len ≤ A.slots.size ∧ len ≤ 536870912 ∧ ∀ i, i < len → ¬ 255 < cv A (o + i)
def E (b : Addr) (A : Cell) (o len : Nat) (r : Option Value) (s u : State) : Prop := NewArr .byte "[B" len (fun j => .int (lo8 (cv A (o + j)))) r s u ∧ u.heap.size = s.heap.size + 1
/-- no char of the range above 255: a new byte[] of their low bytes -/
theorem law (l : Launch) (b : Addr) (A : Cell) (o len : Nat) : Law l yN 3 3 1 18 yB 6 (some (.array .byte)) site (P b A o len) (E b A o len) [] 1 len := by
  refine Law.of_walk (plainFor_of_name (by decide +kernel)) (by decide +kernel) (by decide +kernel) (by decide) (fun _ _ h => by rw [h.1]; rfl) (fun _ U U' hal hh h => ⟨h.1, h.2.1.mv hal hh, h.2.2⟩) (fun r U U' V V' h1 hal h2 h => ⟨NewArr.mv r U U' V V' h1 hal h2 h.1, by rw [h1, h2]; exact h.2⟩) ?_
  intro p e s m args below meth c s₁ X0 hexec hbytes hml hret hlk hnm hown hh0 W hP
  obtain ⟨rfl, hA, l1, l2, hp⟩ := hP
  have a31 := hA.1.2.2.2
  have c1 : Steps p.tables e below (s₁.setTop (entryFrame m #[.ref b, .int (Int32.ofNat o), .int (Int32.ofNat len)] 6)) (s₁.setTop (mkF m 0 #[.val (.ref b), .val (.int (Int32.ofNat o)), .val (.int (Int32.ofNat len)), .unset, .unset, .unset] [])) := entry rfl
  have c2 : Steps p.tables e below (s₁.setTop (entryFrame m #[.ref b, .int (Int32.ofNat o), .int (Int32.ofNat len)] 6)) (s₁.setTop (mkF m 1 #[.val (.ref b), .val (.int (Int32.ofNat o)), .val (.int (Int32.ofNat len)), .unset, .unset, .unset] [.int (Int32.ofNat len)])) := c1.trans (by
    refine XS.iloadN X0.here hexec rfl (hb hbytes d0) rfl ?_
    exact Steps.refl _)
  obtain ⟨T3, B3, X3, ba3, bs3, bv3, bh3, bf3, st3⟩ := X0.anew hexec (atype := .byte) (wk W (.arrayClass .byte)) rfl (by show len * 1 ≤ _; omega) (by omega) (g := (mkF m 1 #[.val (.ref b), .val (.int (Int32.ofNat o)), .val (.int (Int32.ofNat len)), .unset, .unset, .unset] [.int (Int32.ofNat len)])) rfl (hb hbytes d1) (rest := []) rfl (Nat.le_refl _) (by show 0 + len ≤ len; omega)
  rw [hh0] at ba3 st3
  have kp3 : XT.Kept s T3 := (XT.Kept.of_eq hh0).push bh3
  have hA3 := hA.keep X3.warmed.alike (kp3 _ _ hA.1.1)
  have hne : b ≠ s.heap.size := hA.1.ne
  have c4 : Steps p.tables e below (s₁.setTop (entryFrame m #[.ref b, .int (Int32.ofNat o), .int (Int32.ofNat len)] 6)) (T3.setTop (mkF m 3 #[.val (.ref b), .val (.int (Int32.ofNat o)), .val (.int (Int32.ofNat len)), .unset, .unset, .unset] [.ref s.heap.size])) := c2.trans (st3 _ (Steps.refl _))
  have c5 : Steps p.tables e below (s₁.setTop (entryFrame m #[.ref b, .int (Int32.ofNat o), .int (Int32.ofNat len)] 6)) (T3.setTop (mkF m 9 #[.val (.ref b), .val (.int (Int32.ofNat o)), .val (.int (Int32.ofNat len)), .val (.ref s.heap.size), .unset, .unset] [.int (Int32.ofNat len), .int 0, .ref s.heap.size, .int (Int32.ofNat o), .ref b])) := c4.trans (by
    refine XS.astoreN X3.here hexec rfl (hb hbytes d3) rfl rfl rfl ?_
    refine XS.aloadN X3.here hexec rfl (hb hbytes d4) rfl rfl ?_
    refine XS.iloadN X3.here hexec rfl (hb hbytes d5) rfl ?_
    refine XS.aloadN X3.here hexec rfl (hb hbytes d6) rfl rfl ?_
    refine iconstV X3.here hexec rfl 0 (hb hbytes d7) (by decide) ?_
    refine XS.iloadN X3.here hexec rfl (hb hbytes d8) rfl ?_
    exact Steps.refl _)
  obtain ⟨v6, T6, X6, E6, g6⟩ := X3.callS hexec (Cmp5.law l b A s.heap.size B3 o 0 len) hown (wks W (staticW U16 115 Cmp5.yN)) (wk W Cmp5.tab) (W := 0) (Nat.le_of_ble_eq_true rfl) (Nat.le_of_ble_eq_true rfl) (Nat.le_refl _) (by show 0 + len + 0 ≤ len; omega) (g := (mkF m 9 #[.val (.ref b), .val (.int (Int32.ofNat o)), .val (.int (Int32.ofNat len)), .val (.ref s.heap.size), .unset, .unset] [.int (Int32.ofNat len), .int (Int32.ofNat 0), .ref s.heap.size, .int (Int32.ofNat o), .ref b])) rfl (by rw [hml]; rfl) c5 (argsL := [.ref b, .int (Int32.ofNat o), .ref s.heap.size, .int (Int32.ofNat 0), .int (Int32.ofNat len)]) (rest := []) rfl rfl (by show 2 * 0 + 0 ≤ _; decide) (hb hbytes d9) (⟨rfl, hA3, ba3, hne, l1, by rw [bs3]; simp, hp⟩)
  obtain ⟨rfl, B6, p6, f6⟩ := E6
  have c7 : Steps p.tables e below (s₁.setTop (entryFrame m #[.ref b, .int (Int32.ofNat o), .int (Int32.ofNat len)] 6)) (T6.setTop (mkF m 12 #[.val (.ref b), .val (.int (Int32.ofNat o)), .val (.int (Int32.ofNat len)), .val (.ref s.heap.size), .unset, .unset] [.int (Int32.ofNat len)])) := g6
  have c8 : Steps p.tables e below (s₁.setTop (entryFrame m #[.ref b, .int (Int32.ofNat o), .int (Int32.ofNat len)] 6)) (T6.setTop (mkF m 58 #[.val (.ref b), .val (.int (Int32.ofNat o)), .val (.int (Int32.ofNat len)), .val (.ref s.heap.size), .val (.int (Int32.ofNat len)), .unset] [.ref s.heap.size])) := c7.trans (by
    refine XS.istore X6.here hexec rfl (hb hbytes d12) rfl rfl ?_
    refine XS.iload X6.here hexec rfl (hb hbytes d14) rfl ?_
    refine XS.iloadN X6.here hexec rfl (hb hbytes d16) rfl ?_
    refine XS.icmpYes X6.here hexec rfl (pc0 := 17) rfl (hb hbytes d17) rfl (ii_eq_t rfl) (by decide) rfl ?_
    refine XS.aloadN X6.here hexec rfl (hb hbytes d57) rfl rfl ?_
    exact Steps.refl _)
  have X8 := X6.wide (L' := []) (cells' := 1) (slots' := len) (fun x hx hlt => by
    simp only [List.nil_append, copyLocs, List.mem_map, List.mem_range] at hx
    obtain ⟨i, -, rfl⟩ := hx
    exact absurd hlt (Nat.lt_irrefl _)) (Nat.le_refl _) (by omega)
  exact ⟨T6, some (.ref s.heap.size), _, _, _, X8, rfl, rfl, rfl, (fun h => by cases h), ⟨⟨rfl, B6, ba3.like (X3.warmed.alike.symm.trans X6.warmed.alike) p6.1 f6.1 f6.2.1 f6.2.2.1, f6.2.1.trans bv3, by rw [X6.warmed.alike.findClass, f6.1]; exact bf3, by rw [f6.2.2.1, bs3]; simp, fun j hj => by rw [f6.2.2.2 j, if_pos (by omega)]; rfl, kp3.put p6 (Nat.le_refl _)⟩, by rw [p6.2.2, bh3, hh0]; simp⟩, fun fs hl => c8.trans (X8.areturnOut hexec rfl hret rfl (hb hbytes d58) hl)⟩
end Cmp3
namespace CodL
def yN : MethodName := ⟨"java/lang/StringUTF16", "coderFromArrayLen", "([BI)B"⟩
abbrev yB : ByteArray := jdk_52_method_15_code
theorem d0 : decode yB 0 = .ok (.iload_n 1, 1) := by decide +kernel
theorem d1 : decode yB 1 = .ok (.aload_n 0, 1) := by decide +kernel
theorem d2 : decode yB 2 = .ok (.arraylength, 1) := by decide +kernel
theorem d3 : decode yB 3 = .ok (.isub, 1) := by decide +kernel
theorem d4 : decode yB 4 = .ok (.bipush 31, 2) := by decide +kernel
theorem d6 : decode yB 6 = .ok (.iushr, 1) := by decide +kernel
theorem d7 : decode yB 7 = .ok (.i2b, 1) := by decide +kernel
theorem d8 : decode yB 8 = .ok (.ireturn, 1) := by decide +kernel
def site : List Cond := []
def tab : Cond := tabOf yN yB 2 (some .byte) site
def P (d : Addr) (B : Cell) (args : Array Value) (s : State) : Prop := args = #[.ref d, .int (Int32.ofNat B.slots.size)] ∧ Arr .byte d B s
def E (r : Option Value) (s u : State) : Prop := XT.PureE (some (.int 0)) r s u
/-- an array as long as the number of chars: LATIN1 -/
theorem law (l : Launch) (d : Addr) (B : Cell) : Law l yN 2 2 0 0 yB 2 (some .byte) site (P d B) E [] 0 0 := by
  refine Law.of_walk (plainFor_of_name (by decide +kernel)) (by decide +kernel) (by decide +kernel) (by decide) (fun _ _ h => by rw [h.1]; rfl) (fun _ U U' hal hh h => ⟨h.1, h.2.mv hal hh⟩) (fun r U U' V V' h1 hal h2 h => XT.PureE.mv r U U' V V' h1 hal h2 h) ?_
  intro p e s m args below meth c s₁ X0 hexec hbytes hml hret hlk hnm hown hh0 W hP
  obtain ⟨rfl, hB⟩ := hP
  have hB0 := hB.mv X0.warmed.alike hh0
  have c1 : Steps p.tables e below (s₁.setTop (entryFrame m #[.ref d, .int (Int32.ofNat B.slots.size)] 2)) (s₁.setTop (mkF m 0 #[.val (.ref d), .val (.int (Int32.ofNat B.slots.size))] [])) := entry rfl
  have c2 : Steps p.tables e below (s₁.setTop (entryFrame m #[.ref d, .int (Int32.ofNat B.slots.size)] 2)) (s₁.setTop (mkF m 2 #[.val (.ref d), .val (.int (Int32.ofNat B.slots.size))] [.ref d, .int (Int32.ofNat B.slots.size)])) := c1.trans (by
    refine XS.iloadN X0.here hexec rfl (hb hbytes d0) rfl ?_
    refine XS.aloadN X0.here hexec rfl (hb hbytes d1) rfl rfl ?_
    exact Steps.refl _)
  have c3 : Steps p.tables e below (s₁.setTop (entryFrame m #[.ref d, .int (Int32.ofNat B.slots.size)] 2)) (s₁.setTop (mkF m 8 #[.val (.ref d), .val (.int (Int32.ofNat B.slots.size))] [.int (lo8 (ushr (Int32.ofNat B.slots.size - Int32.ofNat B.slots.size) 31))])) := c2.trans (by
    refine X0.alen hexec hB0 rfl rfl (hb hbytes d2) ?_
    refine XS.isub X0.here hexec rfl (hb hbytes d3) rfl ?_
    refine bipushV X0.here hexec rfl 31 (hb hbytes d4) (by decide) ?_
    refine iushr X0.here hexec rfl (hb hbytes d6) rfl ?_
    refine i2b X0.here hexec rfl (hb hbytes d7) rfl ?_
    exact Steps.refl _)
  have e0 : lo8 (ushr (Int32.ofNat B.slots.size - Int32.ofNat B.slots.size) 31) = 0 := by rw [Int32.sub_self]; decide
  rw [e0] at c3
  exact ⟨s₁, some (.int 0), _, _, _, X0, rfl, rfl, rfl, (fun h => by cases h), ⟨rfl, hh0⟩, fun fs hl => c3.trans (X0.ireturnOut hexec hret rfl (Or.inr (Or.inr (Or.inl rfl))) (hb hbytes d8) hl)⟩
end CodL
/-- the String at a is Latin-1 over a new byte[] (the heap's one new cell): the low bytes of the len chars of A from o on; every cell but a is kept -/
def Got (a : Addr) (D : Cell) (fV fC : Field) (A : Cell) (o len : Nat) (r : Option Value) (s u : State) : Prop := r = none ∧ ∃ D' V : Cell, Blank "java/lang/String" a D' u ∧ Same D D' [fV.slot, fC.slot] ∧ D'.slots[fV.slot]? = some (.ref s.heap.size) ∧ D'.slots[fC.slot]? = some (.int 0) ∧ Arr .byte s.heap.size V u ∧ V.vm = .none ∧ u.vm.findClass "[B" = some V.cls ∧ V.slots.size = len ∧ (∀ j, j < len → V.slots[j]? = some (.int (lo8 (cv A (o + j))))) ∧ (∀ (y : Addr) (c : Cell), y ≠ a → s.heap[y]? = some c → u.heap[y]? = some c) ∧ u.heap.size = s.heap.size + 1
theorem Got.mv {a : Addr} {D A : Cell} {fV fC : Field} {o len : Nat} : ∀ r (U U' V V' : State), U'.heap = U.heap → V.vm.Alike V'.vm → V'.heap = V.heap → Got a D fV fC A o len r U V → Got a D fV fC A o len r U' V' :=
  fun r U U' V V' h1 hal h2 ⟨e0, D', X, a1, a2, a3, a4, a5, a6, a7, a8, a9, a10, a11⟩ => ⟨e0, D', X, a1.mv hal h2, a2, by rw [h1]; exact a3, a4, by rw [h1]; exact a5.mv hal h2, a6, by rw [hal.findClass]; exact a7, a8, a9, by rw [h1, h2]; exact a10, by rw [h1, h2]; exact a11⟩
namespace New4
def yN : MethodName := ⟨"java/lang/String", "<init>", "([CIILjava/lang/Void;)V"⟩
abbrev yB : ByteArray := jdk_42_method_149_code
theorem d0 : decode yB 0 = .ok (.aload_n 0, 1) := by decide +kernel
theorem d1 : decode yB 1 = .ok (.invokespecial 1, 3) := by decide +kernel
theorem d4 : decode yB 4 = .ok (.iload_n 3, 1) := by decide +kernel
theorem d5 : decode yB 5 = .ok (.ifCond (.ne) 22, 3) := by decide +kernel
theorem d27 : decode yB 27 = .ok (.getstatic 38, 3) := by decide +kernel
theorem d30 : decode yB 30 = .ok (.ifCond (.eq) 28, 3) := by decide +kernel
theorem d33 : decode yB 33 = .ok (.aload_n 1, 1) := by decide +kernel
theorem d34 : decode yB 34 = .ok (.iload_n 2, 1) := by decide +kernel
theorem d35 : decode yB 35 = .ok (.iload_n 3, 1) := by decide +kernel
theorem d36 : decode yB 36 = .ok (.invokestatic 177, 3) := by decide +kernel
theorem d39 : decode yB 39 = .ok (.astore 5, 2) := by decide +kernel
theorem d41 : decode yB 41 = .ok (.aload_n 0, 1) := by decide +kernel
theorem d42 : decode yB 42 = .ok (.aload 5, 2) := by decide +kernel
theorem d44 : decode yB 44 = .ok (.iload_n 3, 1) := by decide +kernel
theorem d45 : decode yB 45 = .ok (.invokestatic 47, 3) := by decide +kernel
theorem d48 : decode yB 48 = .ok (.putfield 15, 3) := by decide +kernel
theorem d51 : decode yB 51 = .ok (.aload_n 0, 1) := by decide +kernel
theorem d52 : decode yB 52 = .ok (.aload 5, 2) := by decide +kernel
theorem d54 : decode yB 54 = .ok (.putfield 9, 3) := by decide +kernel
theorem d57 : decode yB 57 = .ok (.return_, 1) := by decide +kernel
def site : List Cond := [.fieldLink "java/lang/String" 38 "java/lang/String" "COMPACT_STRINGS" "Z", Cmp3.tab, CodL.tab, .laysFinal "java/lang/String" "java/lang/String" "value" "[B", .fieldLink "java/lang/String" 9 "java/lang/String" "value" "[B", .laysFinal "java/lang/String" "java/lang/String" "coder" "B", .fieldLink "java/lang/String" 15 "java/lang/String" "coder" "B"] ++ objW "java/lang/String" 1 ++ staticW "java/lang/String" 177 Cmp3.yN ++ staticW "java/lang/String" 47 CodL.yN
def tab : Cond := tabOf yN yB 6 none site
def P (a : Addr) (D : Cell) (fV fC : Field) (b : Addr) (A : Cell) (z : Int32) (o len : Nat) (args : Array Value) (s : State) : Prop := args = #[.ref a, .ref b, .int (Int32.ofNat o), .int (Int32.ofNat len), .null] ∧ Blank "java/lang/String" a D s ∧ Found "java/lang/String" "value" "[B" fV s ∧ Found "java/lang/String" "coder" "B" fC s ∧ Ch b A s ∧ StaticIs s "java/lang/String" "COMPACT_STRINGS" "Z" (.int z) ∧ ¬ z = 0 ∧ 0 < len ∧ o + len ≤ A.slots.size ∧ len ≤ 536870912 ∧ ∀ i, i < len → ¬ 255 < cv A (o + i)
def E (a : Addr) (D : Cell) (fV fC : Field) (A : Cell) (o len : Nat) (r : Option Value) (s u : State) : Prop := Got a D fV fC A o len r s u
/-- len > 0, no char of the range above 255: a Latin-1 String of their low bytes -/
theorem law (l : Launch) (a : Addr) (D : Cell) (fV fC : Field) (b : Addr) (A : Cell) (z : Int32) (o len : Nat) : Law l yN 5 4 2 35 yB 6 none site (P a D fV fC b A z o len) (E a D fV fC A o len) [⟨a, fC.slot⟩, ⟨a, fV.slot⟩] 1 len := by
  refine Law.of_walk (plainFor_of_name (by decide +kernel)) (by decide +kernel) (by decide +kernel) (by decide) (fun _ _ h => by rw [h.1]; rfl) (fun _ U U' hal hh h => ⟨h.1, h.2.1.mv hal hh, h.2.2.1.al hal, h.2.2.2.1.al hal, h.2.2.2.2.1.mv hal hh, h.2.2.2.2.2.1.there hal hh, h.2.2.2.2.2.2⟩) (fun r U U' V V' h1 hal h2 h => Got.mv r U U' V V' h1 hal h2 h) ?_
  intro p e s m args below meth c s₁ X0 hexec hbytes hml hret hlk hnm hown hh0 W hP
  obtain ⟨rfl, hB, f1, f2, hA, s1, hz, l0, l1, l2, hp⟩ := hP
  have a31 := hA.1.2.2.2
  have c1 : Steps p.tables e below (s₁.setTop (entryFrame m #[.ref a, .ref b, .int (Int32.ofNat o), .int (Int32.ofNat len), .null] 6)) (s₁.setTop (mkF m 0 #[.val (.ref a), .val (.ref b), .val (.int (Int32.ofNat o)), .val (.int (Int32.ofNat len)), .val .null, .unset] [])) := entry rfl
  have c2 : Steps p.tables e below (s₁.setTop (entryFrame m #[.ref a, .ref b, .int (Int32.ofNat o), .int (Int32.ofNat len), .null] 6)) (s₁.setTop (mkF m 1 #[.val (.ref a), .val (.ref b), .val (.int (Int32.ofNat o)), .val (.int (Int32.ofNat len)), .val .null, .unset] [.ref a])) := c1.trans (by
    refine XS.aloadN X0.here hexec rfl (hb hbytes d0) rfl rfl ?_
    exact Steps.refl _)
  obtain ⟨T3, X3, q3, st3⟩ := X0.oinit hexec hown (wks W (objW "java/lang/String" 1)) (g := (mkF m 1 #[.val (.ref a), .val (.ref b), .val (.int (Int32.ofNat o)), .val (.int (Int32.ofNat len)), .val .null, .unset] [.ref a])) rfl (by rw [hml]; rfl) (rest := []) rfl (hb hbytes d1) (W := 0) (by show 2 * 0 + 0 ≤ _; decide) (Nat.le_of_ble_eq_true rfl) (Nat.le_of_ble_eq_true rfl)
  have hh3 := q3.trans hh0
  have c4 : Steps p.tables e below (s₁.setTop (entryFrame m #[.ref a, .ref b, .int (Int32.ofNat o), .int (Int32.ofNat len), .null] 6)) (T3.setTop (mkF m 27 #[.val (.ref a), .val (.ref b), .val (.int (Int32.ofNat o)), .val (.int (Int32.ofNat len)), .val .null, .unset] [])) := (c2.trans (st3 _ (Steps.refl _))).trans (by
    refine XS.iloadN X3.here hexec rfl (hb hbytes d4) rfl ?_
    refine XS.ifYes X3.here hexec rfl (pc0 := 5) rfl (hb hbytes d5) rfl (i0_ne_t (nz32 (by omega) l0)) (by decide) rfl ?_
    exact Steps.refl _)
  obtain ⟨T5, X5, q5, st5⟩ := X3.sget hexec hown (wk W (.fieldLink "java/lang/String" 38 "java/lang/String" "COMPACT_STRINGS" "Z")) s1 (fun _ _ h => by rw [hh3]; exact h) (g := (mkF m 27 #[.val (.ref a), .val (.ref b), .val (.int (Int32.ofNat o)), .val (.int (Int32.ofNat len)), .val .null, .unset] [])) rfl (hb hbytes d27)
  have hh5 := q5.trans hh3
  have c6 : Steps p.tables e below (s₁.setTop (entryFrame m #[.ref a, .ref b, .int (Int32.ofNat o), .int (Int32.ofNat len), .null] 6)) (T5.setTop (mkF m 30 #[.val (.ref a), .val (.ref b), .val (.int (Int32.ofNat o)), .val (.int (Int32.ofNat len)), .val .null, .unset] [.int z])) := c4.trans (st5 _ (Steps.refl _))
  have c7 : Steps p.tables e below (s₁.setTop (entryFrame m #[.ref a, .ref b, .int (Int32.ofNat o), .int (Int32.ofNat len), .null] 6)) (T5.setTop (mkF m 36 #[.val (.ref a), .val (.ref b), .val (.int (Int32.ofNat o)), .val (.int (Int32.ofNat len)), .val .null, .unset] [.int (Int32.ofNat len), .int (Int32.ofNat o), .ref b])) := c6.trans (by
    refine XS.ifNo X5.here hexec rfl (hb hbytes d30) rfl (i0_eq_f hz) ?_
    refine XS.aloadN X5.here hexec rfl (hb hbytes d33) rfl rfl ?_
    refine XS.iloadN X5.here hexec rfl (hb hbytes d34) rfl ?_
    refine XS.iloadN X5.here hexec rfl (hb hbytes d35) rfl ?_
    exact Steps.refl _)
  obtain ⟨v8, T8, X8, E8, g8⟩ := X5.callS hexec (Cmp3.law l b A o len) hown (wks W (staticW "java/lang/String" 177 Cmp3.yN)) (wk W Cmp3.tab) (W := 0) (Nat.le_of_ble_eq_true rfl) (Nat.le_of_ble_eq_true rfl) (Nat.le_refl _) (by show 0 + len ≤ len; omega) (g := (mkF m 36 #[.val (.ref a), .val (.ref b), .val (.int (Int32.ofNat o)), .val (.int (Int32.ofNat len)), .val .null, .unset] [.int (Int32.ofNat len), .int (Int32.ofNat o), .ref b])) rfl (by rw [hml]; rfl) c7 (argsL := [.ref b, .int (Int32.ofNat o), .int (Int32.ofNat len)]) (rest := []) rfl rfl (by show 2 * 0 + 0 ≤ _; decide) (hb hbytes d36) (⟨rfl, hA.mv X5.warmed.alike hh5, l1, l2, hp⟩)
  obtain ⟨e8, z8⟩ := E8
  obtain ⟨rfl, N, n1, n2, n3, n4, n5, n6⟩ := NewArr.mv _ T5 s _ _ hh5.symm (Vm.Alike.refl _) rfl e8
  rw [hh5] at z8
  have hB1 := hB.keep X8.warmed.alike (n6 _ _ hB.1)
  have hne : s.heap.size ≠ a := (Nat.ne_of_lt (Array.getElem?_eq_some_iff.mp hB.1).1).symm
  have c9 : Steps p.tables e below (s₁.setTop (entryFrame m #[.ref a, .ref b, .int (Int32.ofNat o), .int (Int32.ofNat len), .null] 6)) (T8.setTop (mkF m 39 #[.val (.ref a), .val (.ref b), .val (.int (Int32.ofNat o)), .val (.int (Int32.ofNat len)), .val .null, .unset] [.ref s.heap.size])) := g8
  have c10 : Steps p.tables e below (s₁.setTop (entryFrame m #[.ref a, .ref b, .int (Int32.ofNat o), .int (Int32.ofNat len), .null] 6)) (T8.setTop (mkF m 45 #[.val (.ref a), .val (.ref b), .val (.int (Int32.ofNat o)), .val (.int (Int32.ofNat len)), .val .null, .val (.ref s.heap.size)] [.int (Int32.ofNat N.slots.size), .ref s.heap.size, .ref a])) := by
    have hc : Steps p.tables e below (s₁.setTop (entryFrame m #[.ref a, .ref b, .int (Int32.ofNat o), .int (Int32.ofNat len), .null] 6)) (T8.setTop (mkF m 45 #[.val (.ref a), .val (.ref b), .val (.int (Int32.ofNat o)), .val (.int (Int32.ofNat len)), .val .null, .val (.ref s.heap.size)] [.int (Int32.ofNat len), .ref s.heap.size, .ref a])) := c9.trans (by
      refine XS.astore X8.here hexec rfl (hb hbytes d39) rfl rfl rfl ?_
      refine XS.aloadN X8.here hexec rfl (hb hbytes d41) rfl rfl ?_
      refine XS.aload X8.here hexec rfl (hb hbytes d42) rfl rfl ?_
      refine XS.iloadN X8.here hexec rfl (hb hbytes d44) rfl ?_
      exact Steps.refl _)
    rw [n4]; exact hc
  obtain ⟨v11, T11, X11, E11, g11⟩ := X8.callS hexec (CodL.law l s.heap.size N) hown (wks W (staticW "java/lang/String" 47 CodL.yN)) (wk W CodL.tab) (W := 1) (Nat.le_of_ble_eq_true rfl) (Nat.le_of_ble_eq_true rfl) (Nat.le_refl _) (by show 0 + len + 0 ≤ len; omega) (g := (mkF m 45 #[.val (.ref a), .val (.ref b), .val (.int (Int32.ofNat o)), .val (.int (Int32.ofNat len)), .val .null, .val (.ref s.heap.size)] [.int (Int32.ofNat N.slots.size), .ref s.heap.size, .ref a])) rfl (by rw [hml]; rfl) c10 (argsL := [.ref s.heap.size, .int (Int32.ofNat N.slots.size)]) (rest := [.ref a]) rfl rfl (by show 2 * 0 + (1 + 0) ≤ _; decide) (hb hbytes d45) (⟨rfl, n1⟩)
  obtain ⟨rfl, q11⟩ := E11
  have hB11 := hB1.mv (X8.warmed.alike.symm.trans X11.warmed.alike) q11
  have c12 : Steps p.tables e below (s₁.setTop (entryFrame m #[.ref a, .ref b, .int (Int32.ofNat o), .int (Int32.ofNat len), .null] 6)) (T11.setTop (mkF m 48 #[.val (.ref a), .val (.ref b), .val (.int (Int32.ofNat o)), .val (.int (Int32.ofNat len)), .val .null, .val (.ref s.heap.size)] [.int 0, .ref a])) := g11
  obtain ⟨T13, X13, p13, bl13, sl13, st13⟩ := X11.finit hexec hown (wk W (.fieldLink "java/lang/String" 15 "java/lang/String" "coder" "B")) (Or.inr ⟨_, (wk W (.laysFinal "java/lang/String" "java/lang/String" "coder" "B"))⟩) (Or.inl ⟨rfl, hnm⟩) f2 (Or.inl rfl) hB11 (t := .byte) (by decide +kernel) rfl (g := (mkF m 48 #[.val (.ref a), .val (.ref b), .val (.int (Int32.ofNat o)), .val (.int (Int32.ofNat len)), .val .null, .val (.ref s.heap.size)] [.int 0, .ref a])) rfl (rest := []) rfl (hb hbytes d48)
  have c14 : Steps p.tables e below (s₁.setTop (entryFrame m #[.ref a, .ref b, .int (Int32.ofNat o), .int (Int32.ofNat len), .null] 6)) (T13.setTop (mkF m 54 #[.val (.ref a), .val (.ref b), .val (.int (Int32.ofNat o)), .val (.int (Int32.ofNat len)), .val .null, .val (.ref s.heap.size)] [.ref s.heap.size, .ref a])) := (c12.trans (st13 _ (Steps.refl _))).trans (by
    refine XS.aloadN X13.here hexec rfl (hb hbytes d51) rfl rfl ?_
    refine XS.aload X13.here hexec rfl (hb hbytes d52) rfl rfl ?_
    exact Steps.refl _)
  obtain ⟨T15, X15, p15, bl15, sl15, st15⟩ := X13.finit hexec hown (wk W (.fieldLink "java/lang/String" 9 "java/lang/String" "value" "[B")) (Or.inr ⟨_, (wk W (.laysFinal "java/lang/String" "java/lang/String" "value" "[B"))⟩) (Or.inl ⟨rfl, hnm⟩) f1 (Or.inl rfl) bl13 (t := (.array .byte)) (by decide +kernel) rfl (g := (mkF m 54 #[.val (.ref a), .val (.ref b), .val (.int (Int32.ofNat o)), .val (.int (Int32.ofNat len)), .val .null, .val (.ref s.heap.size)] [.ref s.heap.size, .ref a])) rfl (rest := []) rfl (hb hbytes d54)
  have c16 : Steps p.tables e below (s₁.setTop (entryFrame m #[.ref a, .ref b, .int (Int32.ofNat o), .int (Int32.ofNat len), .null] 6)) (T15.setTop (mkF m 57 #[.val (.ref a), .val (.ref b), .val (.int (Int32.ofNat o)), .val (.int (Int32.ofNat len)), .val .null, .val (.ref s.heap.size)] [])) := c14.trans (st15 _ (Steps.refl _))
  have ap := apart (Or.inr ⟨_, (wk W (.laysFinal "java/lang/String" "java/lang/String" "value" "[B"))⟩) (Or.inr ⟨_, (wk W (.laysFinal "java/lang/String" "java/lang/String" "coder" "B"))⟩) f1 f2 (t₁ := .array .byte) (t₂ := .byte) (by decide +kernel) (by decide +kernel) (by decide)
  have al := X8.warmed.alike.symm.trans X15.warmed.alike
  have n7 : T11.heap[s.heap.size]? = some N := by rw [q11]; exact n1.1
  exact ⟨T15, none, _, _, _, X15, by simp, rfl, by omega, (fun _ => rfl), ⟨rfl, _, N, bl15, ((Same.refl D _).set _ (by simp)).set _ (by simp), sl15, (Cell.slots_setSlot_ne _ ap).trans sl13, n1.keep al (p15.other hne (p13.other hne n7)), n2, by rw [al.findClass]; exact n3, n4, n5, fun y c h1 h2 => p15.other h1 (p13.other h1 (by rw [q11]; exact n6 y c h2)), by rw [p15.2.2, p13.2.2, q11]; exact z8⟩, fun fs hl => c16.trans (X15.returnOut hexec hret (hb hbytes d57) hl)⟩
end New4
namespace New1
def yN : MethodName := ⟨"java/lang/String", "<init>", "([C)V"⟩
abbrev yB : ByteArray := jdk_42_method_3_code
theorem d0 : decode yB 0 = .ok (.aload_n 0, 1) := by decide +kernel
theorem d1 : decode yB 1 = .ok (.aload_n 1, 1) := by decide +kernel
theorem d2 : decode yB 2 = .ok (.iconst 0, 1) := by decide +kernel
theorem d3 : decode yB 3 = .ok (.aload_n 1, 1) := by decide +kernel
theorem d4 : decode yB 4 = .ok (.arraylength, 1) := by decide +kernel
theorem d5 : decode yB 5 = .ok (.aconst_null, 1) := by decide +kernel
theorem d6 : decode yB 6 = .ok (.invokespecial 27, 3) := by decide +kernel
theorem d9 : decode yB 9 = .ok (.return_, 1) := by decide +kernel
def site : List Cond := [New4.tab] ++ initW "java/lang/String" 27 New4.yN
def tab : Cond := tabOf yN yB 2 none site
def P (a : Addr) (D : Cell) (fV fC : Field) (b : Addr) (A : Cell) (z : Int32) (args : Array Value) (s : State) : Prop := args = #[.ref a, .ref b] ∧ Blank "java/lang/String" a D s ∧ Found "java/lang/String" "value" "[B" fV s ∧ Found "java/lang/String" "coder" "B" fC s ∧ Ch b A s ∧ StaticIs s "java/lang/String" "COMPACT_STRINGS" "Z" (.int z) ∧ ¬ z = 0 ∧ 0 < A.slots.size ∧ A.slots.size ≤ 536870912 ∧ ∀ i, i < A.slots.size → ¬ 255 < cv A i
def E (a : Addr) (D : Cell) (fV fC : Field) (A : Cell) (r : Option Value) (s u : State) : Prop := Got a D fV fC A 0 A.slots.size r s u
/-- new String(chars), not empty, no char above 255: a Latin-1 String of their low bytes -/
theorem law (l : Launch) (a : Addr) (D : Cell) (fV fC : Field) (b : Addr) (A : Cell) (z : Int32) : Law l yN 2 1 3 52 yB 2 none site (P a D fV fC b A z) (E a D fV fC A) [⟨a, fC.slot⟩, ⟨a, fV.slot⟩] 1 A.slots.size := by
  refine Law.of_walk (plainFor_of_name (by decide +kernel)) (by decide +kernel) (by decide +kernel) (by decide) (fun _ _ h => by rw [h.1]; rfl) (fun _ U U' hal hh h => ⟨h.1, h.2.1.mv hal hh, h.2.2.1.al hal, h.2.2.2.1.al hal, h.2.2.2.2.1.mv hal hh, h.2.2.2.2.2.1.there hal hh, h.2.2.2.2.2.2⟩) (fun r U U' V V' h1 hal h2 h => Got.mv r U U' V V' h1 hal h2 h) ?_
  intro p e s m args below meth c s₁ X0 hexec hbytes hml hret hlk hnm hown hh0 W hP
  obtain ⟨rfl, hB, f1, f2, hA, s1, hz, l0, l2, hp⟩ := hP
  have c1 : Steps p.tables e below (s₁.setTop (entryFrame m #[.ref a, .ref b] 2)) (s₁.setTop (mkF m 0 #[.val (.ref a), .val (.ref b)] [])) := entry rfl
  have c2 : Steps p.tables e below (s₁.setTop (entryFrame m #[.ref a, .ref b] 2)) (s₁.setTop (mkF m 6 #[.val (.ref a), .val (.ref b)] [.null, .int (Int32.ofNat A.slots.size), .int 0, .ref b, .ref a])) := c1.trans (by
    refine XS.aloadN X0.here hexec rfl (hb hbytes d0) rfl rfl ?_
    refine XS.aloadN X0.here hexec rfl (hb hbytes d1) rfl rfl ?_
    refine iconstV X0.here hexec rfl 0 (hb hbytes d2) (by decide) ?_
    refine XS.aloadN X0.here hexec rfl (hb hbytes d3) rfl rfl ?_
    refine X0.alen hexec (hA.1.mv X0.warmed.alike hh0) rfl rfl (hb hbytes d4) ?_
    refine XS.aconstNull X0.here hexec rfl (hb hbytes d5) ?_
    exact Steps.refl _)
  obtain ⟨v3, T3, X3, E3, g3⟩ := X0.callN hexec (New4.law l a D fV fC b A z 0 A.slots.size) rfl hown (wks W (initW "java/lang/String" 27 New4.yN)) (W New4.tab (by simp only [site, List.mem_cons, List.mem_append, true_or, or_true])) (W := 0) (Nat.le_of_ble_eq_true rfl) (Nat.le_of_ble_eq_true rfl) (Nat.le_refl _) (by show 0 + A.slots.size ≤ A.slots.size; omega) (g := (mkF m 6 #[.val (.ref a), .val (.ref b)] [.null, .int (Int32.ofNat A.slots.size), .int (Int32.ofNat 0), .ref b, .ref a])) rfl (by rw [hml]; rfl) c2 (argsL := [.ref b, .int (Int32.ofNat 0), .int (Int32.ofNat A.slots.size), .null]) (rest := []) rfl rfl (by show 2 * 0 + 0 ≤ _; decide) (hb hbytes d6) (⟨rfl, hB.mv X0.warmed.alike hh0, f1.al X0.warmed.alike, f2.al X0.warmed.alike, hA.mv X0.warmed.alike hh0, s1.there X0.warmed.alike hh0, hz, l0, by omega, l2, fun i hi => by rw [Nat.zero_add]; exact hp i hi⟩)
  have e0 := Got.mv _ s₁ s _ _ hh0.symm (Vm.Alike.refl _) rfl E3
  obtain rfl := e0.1
  have c4 : Steps p.tables e below (s₁.setTop (entryFrame m #[.ref a, .ref b] 2)) (T3.setTop (mkF m 9 #[.val (.ref a), .val (.ref b)] [])) := g3
  exact ⟨T3, none, _, _, _, X3, by simp, rfl, by omega, (fun _ => rfl), e0, fun fs hl => c4.trans (X3.returnOut hexec hret (hb hbytes d9) hl)⟩
theorem pays {l : Launch} {R : Room} {p : Program} {e : Env} {below : List Frame} {s : State} {sargs : Array Value} {len W : Nat} (a : Addr) (D : Cell) (fV fC : Field) (b : Addr) (A : Cell) (z : Int32) (htab : tab.before sargs s = true) (hfr : 4 ≤ R.frames) (hlo : W + 65 ≤ R.locals) :
    Back l R p e below s sargs yN len W (fun A₁ a₁ => A₁.cells + 1 ≤ R.cells ∧ A₁.slots + A.slots.size ≤ R.slots ∧ P a D fV fC b A z a₁ A₁.U) (fun A₁ _ v₁ B₁ => E a D fV fC A v₁ A₁.U B₁.U ∧ B₁.locs = A₁.locs ++ [⟨a, fC.slot⟩, ⟨a, fV.slot⟩] ∧ B₁.cells = A₁.cells + 1 ∧ B₁.slots = A₁.slots + A.slots.size) :=
  (law l a D fV fC b A z).pays htab hfr (by omega)
end New1
/-- the byte, read back as charAt reads it, is the char -/
theorem lo8_mask {x : Int32} (h0 : ¬ x < 0) (h1 : ¬ 255 < x) : lo8 x &&& 255 = x := by
  have t : ∀ k : Fin 256, lo8 (Int32.ofNat k.val) &&& 255 = Int32.ofNat k.val := by decide +kernel
  rw [Int32.lt_iff_toInt_lt] at h0 h1
  have e0 : (0 : Int32).toInt = 0 := rfl
  have e1 : (255 : Int32).toInt = 255 := rfl
  obtain ⟨k, hk⟩ : ∃ k : Nat, x.toInt = k := ⟨x.toInt.toNat, by omega⟩
  have hx : x = Int32.ofNat k := Int32.toInt_inj.mp (by rw [hk, Int32.toInt_ofNat_small (by omega)])
  rw [hx]
  exact t ⟨k, by omega⟩
end StrChars
namespace StrChars.Road
open Jvm Sem ClassFile Op Lib Jvm.Stand Jvm.Free Jvm.Free.XT
open Jvm.Lib.Cold (StaticIs)
abbrev ST : String := "java/lang/String"
/-- every table word that New1's law asks, flat -/
abbrev words : List Jvm.Cond := [.code New1.yN New1.yB 2 none, .initialized ST, .methodLink ST 27 New4.yN, .instanceMethod New4.yN,
  .code New4.yN New4.yB 6 none, .fieldLink ST 38 ST "COMPACT_STRINGS" "Z", .laysFinal ST ST "value" "[B", .fieldLink ST 9 ST "value" "[B", .laysFinal ST ST "coder" "B", .fieldLink ST 15 ST "coder" "B",
  .methodLink ST 1 Lib.objectInit, .instanceMethod Lib.objectInit, .code Lib.objectInit ⟨#[0xb1]⟩ 1 none, .methodLink ST 177 Cmp3.yN, .static Cmp3.yN, .methodLink ST 47 CodL.yN, .static CodL.yN,
  .code Cmp3.yN Cmp3.yB 6 (some (.array .byte)), .initialized U16, .arrayClass .byte, .methodLink U16 115 Cmp5.yN, .static Cmp5.yN, .code Cmp5.yN Cmp5.yB 7 (some .int), .code CodL.yN CodL.yB 2 (some .byte)]
theorem tab_of {a : Array Value} {s : State} (h : ∀ w ∈ words, w.before a s = true) : New1.tab.before a s = true := by
  have h5 : Cmp5.tab.before a s = true := unparts (wk h (.code Cmp5.yN Cmp5.yB 7 (some .int))) (wks h (.initialized Cmp5.yN.cls :: Cmp5.site))
  have hc : CodL.tab.before a s = true := unparts (wk h (.code CodL.yN CodL.yB 2 (some .byte))) (wks h (.initialized CodL.yN.cls :: CodL.site))
  have q5 : ∀ w ∈ Cmp5.tab :: words, w.before a s = true := fun w hw => (List.mem_cons.mp hw).elim (fun e => e ▸ h5) (h w)
  have h3 : Cmp3.tab.before a s = true := unparts (wk q5 (.code Cmp3.yN Cmp3.yB 6 (some (.array .byte)))) (wks q5 (.initialized Cmp3.yN.cls :: Cmp3.site))
  have q3 : ∀ w ∈ Cmp3.tab :: CodL.tab :: words, w.before a s = true := fun w hw => (List.mem_cons.mp hw).elim (fun e => e ▸ h3) fun hw => (List.mem_cons.mp hw).elim (fun e => e ▸ hc) (h w)
  have h4 : New4.tab.before a s = true := unparts (wk q3 (.code New4.yN New4.yB 6 none)) (wks q3 (.initialized New4.yN.cls :: New4.site))
  have q4 : ∀ w ∈ New4.tab :: words, w.before a s = true := fun w hw => (List.mem_cons.mp hw).elim (fun e => e ▸ h4) (h w)
  exact unparts (wk q4 (.code New1.yN New1.yB 2 none)) (wks q4 (.initialized New1.yN.cls :: New1.site))
/-- the words ride from the start Z to the walk's own state -/
theorem moved {Z s : State} {a0 args : Array Value} (hZ : Z.Warmed39 s.vm) (hw : ∀ d ∈ words, d.before a0 Z = true) : ∀ d ∈ words, d.before args s = true := fun d hd => by
  have q := hw d hd
  have t : ∀ d ∈ words, d = .arrayClass .byte ∨ (d.onTables && d.keepsFace) = true := by decide +kernel
  rcases t d hd with rfl | t
  · exact RoadKit.mvA hZ q
  · exact RoadKit.mv hZ q t
/-- WHAT COMES BACK, over the tables of the start Z: h the heap at the call, h' behind it -/
def Q (Z : State) (x : Addr) (A : Cell) (h : Heap) (v : Option Value) (h' : Heap) (L : List Loc) : Prop := v = none ∧ (∀ y ∈ L, y.base = x) ∧ RoadKit.Keep h h' [x] ∧ h'.size = h.size + 1 ∧ RoadKit.Exa Z h' x ST ∧ RoadKit.Fld Z h' x ST "value" "[B" (.ref h.size) ∧ RoadKit.Fld Z h' x ST "coder" "B" (.int 0) ∧
  (∃ V : Cell, RoadKit.Arr Z h' h.size V .byte ∧ V.vm = .none ∧ Z.vm.findClass "[B" = some V.cls ∧ V.slots.size = A.slots.size ∧ ∀ j, j < A.slots.size → V.slots[j]? = some (.int (lo8 (cv A j)))) ∧
  ∀ (O n d : String) (w : Value), RoadKit.Fld Z h x O n d w → RoadKit.slotOf Z O n d ≠ RoadKit.slotOf Z ST "value" "[B" → RoadKit.slotOf Z O n d ≠ RoadKit.slotOf Z ST "coder" "B" → RoadKit.Fld Z h' x O n d w
/-- **new String(chars) AT A CALL, IN THE ROAD'S FORM**: for specialBack behind newO: x the fresh String, b the char[] with the cell A -/
theorem back {p : Program} {l : Launch} {e : Env} {R : Room} {s : State} {args : Array Value} {below : List Frame} {len W : Nat} {Z : State} {a0 : Array Value} {h : Heap} (hZ : Z.Warmed39 s.vm) (hw : ∀ d ∈ words, d.before a0 Z = true) {kI : Nat} (wi : (Jvm.Cond.instantiable ST kI).before a0 Z = true)
    {x b : Addr} {A : Cell} {z : Int32} {v0 c0 : Value} (E : RoadKit.Exa Z h x ST) (V : RoadKit.Fld Z h x ST "value" "[B" v0) (C : RoadKit.Fld Z h x ST "coder" "B" c0) (K : RoadKit.Arr Z h b A .char) (hty : Typed .char A) (S : RoadKit.Sta Z h ST "COMPACT_STRINGS" "Z" (.int z)) (hz : ¬ z = 0)
    (l0 : 0 < A.slots.size) (l2 : A.slots.size ≤ 536870912) (hp : ∀ i, i < A.slots.size → ¬ 255 < cv A i) (hfr : 4 ≤ R.frames) (hlo : W + 65 ≤ R.locals) :
    Back l R p e below s args New1.yN len W (fun P a => a = #[.ref x, .ref b] ∧ P.U.heap = h ∧ P.cells + 1 ≤ R.cells ∧ P.slots + A.slots.size ≤ R.slots)
      (fun P _ v B => ∃ L, Q Z x A h v B.U.heap L ∧ B.locs = P.locs ++ L ∧ B.cells = P.cells + 1 ∧ B.slots = P.slots + A.slots.size) := by
  intro m meth c P g ig mk a X hg hsize hdg hW hn hp'
  obtain ⟨rfl, rfl, r1, r2⟩ := hp'
  have al : Z.vm.Alike P.U.vm := hZ.alike.trans X.warmed.alike
  obtain ⟨D, cfV, kV, iV, fV, hD, gV, stV, knV, obV, asV, slV⟩ := id V
  obtain ⟨D', cfC, kC, iC, fC, hD', gC, stC, -, -, asC, slC⟩ := id C
  cases hD.symm.trans hD'
  obtain ⟨D2, kD, e1, e2, e3, e4, e5⟩ := id E
  cases hD.symm.trans e1
  obtain ⟨c2, k2, i1, i2, i3, -⟩ := Cond.instantiable_spec wi
  cases e2.symm.trans i1
  cases e3.symm.trans i2
  obtain ⟨kU, u1, u2⟩ := al.2.2 _ _ e3
  have hB : Blank ST x D P.U := ⟨hD, ⟨knV, fun q hq => by rw [hq] at obV; cases obV⟩, by rw [al.findClass]; exact e2, kU, u1, by rw [u2]; exact i3, by rw [u2]; exact e5 i3⟩
  have F1 : Found ST "value" "[B" fV P.U := ⟨SBG.found_only al ⟨cfV, kV, iV, gV⟩, stV⟩
  have F2 : Found ST "coder" "B" fC P.U := ⟨SBG.found_only al ⟨cfC, kC, iC, gC⟩, stC⟩
  have hA : Ch b A P.U := ⟨⟨K.1, State.isArrayOf_alike al K.2.1, K.2.2, by omega⟩, hty⟩
  have hS : StaticIs P.U ST "COMPACT_STRINGS" "Z" (.int z) := by
    obtain ⟨cfS, iS, kS, fS, st, cS, t1, t2, t3, t4, t5, t6, t7⟩ := S
    exact StaticIs.there (s := { Z with heap := P.U.heap }) ⟨cfS, iS, kS, fS, st, cS, t1, t2, t3, t4, t5, (fun q => by rw [q] at t6; cases t6), t7⟩ al rfl
  obtain ⟨v, B, X', ⟨⟨hv, E', V', q1, q2, q3, q4, q5, q6, q7, q8, q9, q10, q11⟩, hl, hc, hs⟩, st⟩ := New1.pays x D fV fC b A z (tab_of (moved hZ hw)) hfr hlo m meth c P g ig mk _ X hg hsize hdg hW hn ⟨r1, r2, rfl, hB, F1, F2, hA, hS, hz, l0, l2, hp⟩
  have al' : Z.vm.Alike B.U.vm := hZ.alike.trans X'.warmed.alike
  have hsz : E'.slots.size = D.slots.size := by
    obtain ⟨-, -, -, kB, w1, w2, w3⟩ := q1
    obtain ⟨kB', y1, y2⟩ := al'.2.2 _ _ e3
    rw [q2.2.1] at w1
    cases w1.symm.trans y1
    rw [w3, e5 i3, y2]
  refine ⟨v, B, X', ⟨_, ⟨hv, ?_, ⟨by omega, fun y cy hy hn' => q10 y cy (by simpa using hn') hy, fun y cy hy => ?_⟩, q11, ⟨E', _, q1.1, by rw [q2.2.1]; exact e2, by rw [q2.2.1]; exact e3, by rw [q2.1]; exact obV, fun _ => by rw [hsz]; exact e5 i3⟩,
    ⟨E', cfV, kV, iV, fV, q1.1, gV, stV, by rw [q2.1]; exact knV, by rw [q2.1]; exact obV, by rw [q2.2.1]; exact asV, q3⟩, ⟨E', cfC, kC, iC, fC, q1.1, gC, stC, by rw [q2.1]; exact knV, by rw [q2.1]; exact obV, by rw [q2.2.1]; exact asC, q4⟩,
    ⟨V', ⟨q5.1, State.isArrayOf_alike al'.symm q5.2.1, q5.2.2.1⟩, q6, by rw [← al'.findClass]; exact q7, q8, fun j hj => by have := q9 j hj; rwa [Nat.zero_add] at this⟩, fun O n d w F n1 n2 => ?_⟩, hl, hc, hs⟩, st⟩
  · intro y hy
    simp only [List.mem_cons, List.not_mem_nil, or_false] at hy
    rcases hy with rfl | rfl <;> rfl
  · by_cases q : y = x
    · subst q
      cases hD.symm.trans hy
      exact ⟨E', q1.1, q2.2.1, q2.1, hsz⟩
    · exact ⟨cy, q10 y cy q hy, rfl, rfl, rfl⟩
  · obtain ⟨D3, cf, k, i, f, g1, g2, g3, g4, g5, g6, g7⟩ := F
    cases hD.symm.trans g1
    simp only [RoadKit.slotOf, g2, gV, gC, Option.map_some, Option.getD_some] at n1 n2
    exact ⟨E', cf, k, i, f, q1.1, g2, g3, by rw [q2.1]; exact g4, by rw [q2.1]; exact g5, by rw [q2.2.1]; exact g6, by rw [q2.2.2 f.slot (by simp [n1, n2])]; exact g7⟩
end StrChars.Road
namespace StrChars.Road
open Jvm Sem ClassFile Op Lib Jvm.Stand Jvm.Free Jvm.Free.XT
/-- WHAT COMES BACK, the byte[] as a list of values -/
def QA (Z : State) (x : Addr) (zn : Int32) (cs : List Int32) (h : Heap) (v : Option Value) (h' : Heap) (L : List Loc) : Prop := v = none ∧ (∀ y ∈ L, y.base = x) ∧ RoadKit.Keep h h' [x] ∧ h'.size = h.size + 1 ∧ RoadKit.Exa Z h' x ST ∧ RoadKit.Fld Z h' x ST "value" "[B" (.ref h.size) ∧ RoadKit.Fld Z h' x ST "coder" "B" (.int 0) ∧
  (∃ kb, Z.vm.findClass "[B" = some kb ∧ RoadKit.Arv Z h' h.size kb .byte zn (cs.map fun c => .int (lo8 c)) (.int 0)) ∧
  ∀ (O n d : String) (w : Value), RoadKit.Fld Z h x O n d w → RoadKit.slotOf Z O n d ≠ RoadKit.slotOf Z ST "value" "[B" → RoadKit.slotOf Z O n d ≠ RoadKit.slotOf Z ST "coder" "B" → RoadKit.Fld Z h' x O n d w
/-- **new String(chars) AT A CALL, THE ARRAYS AS LISTS**: the char[] at b holds cs, not empty, no char above 255 -/
theorem backArv {p : Program} {l : Launch} {e : Env} {R : Room} {s : State} {args : Array Value} {below : List Frame} {len W : Nat} {Z : State} {a0 : Array Value} {h : Heap} (hZ : Z.Warmed39 s.vm) (hw : ∀ d ∈ words, d.before a0 Z = true) {kI : Nat} (wi : (Jvm.Cond.instantiable ST kI).before a0 Z = true)
    {x b : Addr} {k : ClassId} {zn z : Int32} {cs : List Int32} {dv v0 c0 : Value} (E : RoadKit.Exa Z h x ST) (V : RoadKit.Fld Z h x ST "value" "[B" v0) (C : RoadKit.Fld Z h x ST "coder" "B" c0) (K : RoadKit.Arv Z h b k .char zn (cs.map Value.int) dv) (S : RoadKit.Sta Z h ST "COMPACT_STRINGS" "Z" (.int z)) (hz : ¬ z = 0)
    (hlen : zn.toNatClampNeg = cs.length) (h0 : 0 < cs.length) (hbig : cs.length ≤ 536870912) (hall : ∀ c ∈ cs, ¬ 255 < c) (hfr : 4 ≤ R.frames) (hlo : W + 65 ≤ R.locals) :
    Back l R p e below s args New1.yN len W (fun P a => a = #[.ref x, .ref b] ∧ P.U.heap = h ∧ P.cells + 1 ≤ R.cells ∧ P.slots + cs.length ≤ R.slots)
      (fun P _ v B => ∃ L, QA Z x zn cs h v B.U.heap L ∧ B.locs = P.locs ++ L ∧ B.cells = P.cells + 1 ∧ B.slots = P.slots + cs.length) := by
  obtain ⟨A, K1, K2, K3, K4, K5, K6⟩ := K
  have e : A.slots.size = cs.length := K3.trans hlen
  have hat : ∀ (i : Nat) (hi : i < cs.length), A.slots[i]? = some (.int cs[i]) := fun i hi => by rw [K5 i (by omega)]; simp [List.getD_eq_getElem?_getD, hi]
  have hcv : ∀ (i : Nat) (hi : i < cs.length), cv A i = cs[i] := fun i hi => by unfold cv; rw [hat i hi]
  have hty : Typed .char A := fun i v hv => by
    have hi : i < A.slots.size := (Array.getElem?_eq_some_iff.mp hv).1
    have q := K5 i hi
    rw [hv] at q
    rw [Option.some.inj q]
    exact K6 i hi
  refine Back.mono (back hZ hw wi E V C K1 hty S hz (by omega) (by omega) (fun i hi => by rw [hcv i (by omega)]; exact hall _ (List.getElem_mem _)) hfr hlo) (fun P a hp => ⟨hp.1, hp.2.1, hp.2.2.1, by rw [e]; exact hp.2.2.2⟩) (fun P a v B hp hq => ?_)
  obtain ⟨L, ⟨q1, q2, q3, q4, q5, q6, q7, ⟨V', v1, v2, v3, v4, v5⟩, q9⟩, hl, hc, hs⟩ := hq
  refine ⟨L, ⟨q1, q2, q3, q4, q5, q6, q7, ⟨V'.cls, v3, V', v1, rfl, by rw [v4, e, hlen], K4, fun i hi => ?_, fun i hi => ?_⟩, q9⟩, hl, hc, by rw [hs, e]⟩
  · have hi' : i < cs.length := by omega
    rw [v5 i (by omega), hcv i hi']; simp [List.getD_eq_getElem?_getD, hi']
  · have hi' : i < cs.length := by omega
    simp only [List.getD_eq_getElem?_getD, List.getElem?_map, List.getElem?_eq_getElem hi', Option.map_some, Option.getD_some]
    exact fits_lo8 _
end StrChars.Road
namespace StrChars.Road
open Jvm Sem ClassFile Op Lib Jvm.Stand Jvm.Free Jvm.Free.XT
/-- WHAT COMES BACK, in the writer's own shape -/
def QV (Z : State) (x : Addr) (N : Int32) (bs : List Int32) (h : Heap) (n0 : Nat) (v : Option Value) (h' : Heap) (L : List Loc) : Prop := v = none ∧ RoadKit.Fr n0 L ∧ RoadKit.Keep h h' [x] ∧ RoadKit.Exa Z h' x ST ∧ RoadKit.Fld Z h' x ST "coder" "B" (.int 0) ∧
  ∃ (t : Addr) (kb : ClassId), n0 ≤ t ∧ h.size ≤ t ∧ ¬ t = x ∧ RoadKit.Fld Z h' x ST "value" "[B" (.ref t) ∧ RoadKit.Arv Z h' t kb .byte N (bs.map Value.int) (.int 0)
/-- **new String(chars) AT A CALL, FOR THE WRITER**: a char[] of n known ints, each 0 to 255 -/
theorem backV {p : Program} {l : Launch} {e : Env} {R : Room} {s : State} {args : Array Value} {below : List Frame} {len W : Nat} {Z : State} {a0 : Array Value} {h : Heap} (hZ : Z.Warmed39 s.vm) (hw : ∀ d ∈ words, d.before a0 Z = true) {kI : Nat} (wi : (Jvm.Cond.instantiable ST kI).before a0 Z = true)
    {x b : Addr} {kC : ClassId} {cs bs : List Int32} {d v0 c0 : Value} {z N : Int32} {n n0 : Nat} (hx0 : n0 ≤ x) (hh0 : n0 ≤ h.size) (E : RoadKit.Exa Z h x ST) (V : RoadKit.Fld Z h x ST "value" "[B" v0) (C : RoadKit.Fld Z h x ST "coder" "B" c0) (K : RoadKit.Arv Z h b kC .char N (cs.map Value.int) d) (S : RoadKit.Sta Z h ST "COMPACT_STRINGS" "Z" (.int z)) (hz : ¬ z = 0)
    (hn : cs.length = n) (hN : N = Int32.ofNat n) (l0 : 0 < n) (l2 : n ≤ 4000) (hp : ∀ c ∈ cs, ¬ c < 0 ∧ ¬ (255 : Int32) < c) (hb : bs = cs.map (fun c => c.toInt8.toInt32)) (hfr : 4 ≤ R.frames) (hlo : W + 65 ≤ R.locals) :
    Back l R p e below s args (⟨"java/lang/String", "<init>", "([C)V"⟩ : MethodName) len W (fun P a => a = #[.ref x, .ref b] ∧ P.U.heap = h ∧ P.cells + 1 ≤ R.cells ∧ P.slots + n ≤ R.slots)
      (fun P _ v B => ∃ L, QV Z x N bs h n0 v B.U.heap L ∧ B.locs = P.locs ++ L ∧ B.cells = P.cells + 1 ∧ B.slots = P.slots + n) := by
  subst hn hN hb
  refine Back.mono (backArv hZ hw wi E V C K S hz (n32 (by omega)) l0 (by omega) (fun c hc => (hp c hc).2) hfr hlo) (fun P a hp => hp) (fun P a v B hp hq => ?_)
  obtain ⟨L, ⟨q1, q2, q3, q4, q5, q6, q7, ⟨kb, v1, v2⟩, q9⟩, hl, hc, hs⟩ := hq
  exact ⟨L, ⟨q1, fun y hy => by rw [q2 y hy]; exact hx0, q3, q5, q7, h.size, kb, hh0, Nat.le_refl _, Nat.ne_of_gt E.lt, q6, by rw [List.map_map]; exact v2⟩, hl, hc, hs⟩
end StrChars.Road
namespace StrChars
open Jvm Sem ClassFile Op Lib Jvm.Stand Jvm.Free.XT Jvm.Free.ALB Jvm.Free.JM Jvm.Free
open Jvm.Lib.Cold (StaticIs)
def hi8 (x : Int32) : Int32 := lo8 (x >>> ((8 : Int32) &&& 31))
/-- what StringUTF16.getChar makes of two bytes -/
def pairCh (u v : Int32) : Int32 := (((u &&& 255) <<< ((0 : Int32) &&& 31)) ||| ((v &&& 255) <<< ((8 : Int32) &&& 31))).toUInt32.toUInt16.toUInt32.toInt32
theorem lo8_and (x : Int32) : (lo8 x &&& 255).toBitVec.toNat = x.toBitVec.toNat % 256 := by
  have h : (lo8 x).toBitVec = (x.toBitVec.signExtend 8).signExtend 32 := by rw [lo8, Int8.toBitVec_toInt32, Int32.toBitVec_toInt8]
  rw [Int32.toBitVec_and, BitVec.toNat_and, h]
  have e : ((x.toBitVec.signExtend 8).signExtend 32).toNat % 256 = x.toBitVec.toNat % 256 := by
    rw [BitVec.toNat_signExtend]
    have hlt := x.toBitVec.isLt
    simp only [BitVec.toNat_setWidth, BitVec.toNat_signExtend]
    split <;> split <;> omega
  rw [← e]
  exact Nat.and_two_pow_sub_one_eq_mod _ 8
theorem pair_says {c : Int32} (h0 : ¬ c < 0) (h1 : ¬ 65535 < c) : pairCh (lo8 c) (hi8 c) = c := by
  rw [Int32.lt_iff_toInt_lt] at h0 h1
  have e0 : (0 : Int32).toInt = 0 := rfl
  have e1 : (65535 : Int32).toInt = 65535 := rfl
  have hc : c.toInt = c.toBitVec.toNat := by
    have := c.toBitVec.isLt
    have e : c.toInt = c.toBitVec.toInt := rfl
    rw [e] at h0 h1
    rw [e]
    rw [BitVec.toInt_eq_toNat_cond] at h0 h1 ⊢
    split at h0 <;> split <;> omega
  have hn : c.toBitVec.toNat < 65536 := by omega
  have a1 := lo8_and c
  have a2 : (hi8 c &&& 255).toBitVec.toNat = c.toBitVec.toNat / 256 := by
    rw [hi8, lo8_and]
    have e : ((8 : Int32) &&& 31) = 8 := by decide
    rw [e, Int32.toBitVec_shiftRight]
    have e2 : ((8 : Int32).toBitVec.smod 32) = 8#32 := by decide
    rw [e2, BitVec.sshiftRight_eq', BitVec.toNat_sshiftRight_of_msb_false (by rw [BitVec.msb_eq_false_iff_two_mul_lt]; omega)]
    show c.toBitVec.toNat >>> 8 % 256 = _
    rw [Nat.shiftRight_eq_div_pow]
    omega
  unfold pairCh
  apply Int32.toBitVec_inj.mp
  apply BitVec.eq_of_toNat_eq
  have f0 : ((0 : Int32) &&& 31) = 0 := by decide
  have f8 : ((8 : Int32) &&& 31) = 8 := by decide
  rw [f0, f8]
  have g : (((lo8 c &&& 255) <<< (0 : Int32)) ||| ((hi8 c &&& 255) <<< (8 : Int32))).toBitVec.toNat = c.toBitVec.toNat := by
    rw [Int32.toBitVec_or, Int32.toBitVec_shiftLeft, Int32.toBitVec_shiftLeft]
    have s0 : ((0 : Int32).toBitVec.smod 32) = 0#32 := by decide
    have s8 : ((8 : Int32).toBitVec.smod 32) = 8#32 := by decide
    rw [s0, s8, BitVec.toNat_or]
    simp only [BitVec.shiftLeft_eq', BitVec.toNat_shiftLeft, a1, a2]
    show (c.toBitVec.toNat % 256) <<< 0 % 2 ^ 32 ||| (c.toBitVec.toNat / 256) <<< 8 % 2 ^ 32 = _
    rw [Nat.shiftLeft_zero, Nat.mod_eq_of_lt (show c.toBitVec.toNat % 256 < 2 ^ 32 by omega), Nat.mod_eq_of_lt (show (c.toBitVec.toNat / 256) <<< 8 < 2 ^ 32 by rw [Nat.shiftLeft_eq]; omega), Nat.or_comm, ← Nat.shiftLeft_add_eq_or_of_lt (by omega), Nat.shiftLeft_eq]
    omega
  show BitVec.toNat (((((lo8 c &&& 255) <<< (0 : Int32)) ||| ((hi8 c &&& 255) <<< (8 : Int32))).toBitVec.setWidth 16).setWidth 32) = _
  rw [BitVec.toNat_setWidth, BitVec.toNat_setWidth, g]
  omega
end StrChars
namespace StrChars
open Jvm Sem ClassFile Op Lib Jvm.Stand Jvm.Free.XT Jvm.Free.ALB Jvm.Free.JM Jvm.Free
open Jvm.Lib.Cold (StaticIs)
/-- the array's cell V codes the n chars f 0 .. f (n - 1) by the coder cd, as the JDK does: coder 1 just where some char is above 255 -/
def Cod (cd : Int32) (n : Nat) (f : Nat → Int32) (V : Cell) : Prop := (cd = 0 ∧ V.slots.size = n ∧ ∀ j, j < n → V.slots[j]? = some (.int (lo8 (f j))) ∧ ¬ 255 < f j) ∨ (cd = 1 ∧ V.slots.size = 2 * n ∧ (∀ j, j < n → V.slots[2 * j]? = some (.int (lo8 (f j))) ∧ V.slots[2 * j + 1]? = some (.int (hi8 (f j)))) ∧ ∃ j, j < n ∧ 255 < f j)
/-- **x is a String of the n chars f 0 .. f (n - 1)**, Latin-1 or UTF-16; its array at t has the cell V -/
def Txt (x t : Addr) (V : Cell) (cd : Int32) (n : Nat) (f : Nat → Int32) (U : State) : Prop := Exact "java/lang/String" x U ∧ Has x "java/lang/String" "value" "[B" (.ref t) U ∧ Has x "java/lang/String" "coder" "B" (.int cd) U ∧ XT.Arr .byte t V U ∧ Cod cd n f V ∧ ∀ j, j < n → ¬ f j < 0 ∧ ¬ 65535 < f j
theorem Txt.mv {x t : Addr} {V : Cell} {cd : Int32} {n : Nat} {f : Nat → Int32} {U U' : State} (h : Txt x t V cd n f U) (hal : U.vm.Alike U'.vm) (hh : U'.heap = U.heap) : Txt x t V cd n f U' := ⟨h.1.mv hal hh, h.2.1.mv hal hh, h.2.2.1.mv hal hh, h.2.2.2.1.mv hal hh, h.2.2.2.2⟩
end StrChars
namespace StrChars.Road
open Jvm Sem ClassFile Op Lib Jvm.Stand Jvm.Free Jvm.Free.XT
open Jvm.Lib.Cold (StaticIs)
theorem consq {a : Array Value} {s : State} {c : Jvm.Cond} {L : List Jvm.Cond} (h0 : c.before a s = true) (h : ∀ w ∈ L, w.before a s = true) : ∀ w ∈ c :: L, w.before a s = true := fun w hw => (List.mem_cons.mp hw).elim (fun e => e ▸ h0) (h w)
/-- the bytes of the chars cs, low before high -/
def wideBytes : List Int32 → List Value
  | [] => []
  | c :: cs => .int (lo8 c) :: .int (hi8 c) :: wideBytes cs
theorem wide_lo (d : Value) : ∀ (cs : List Int32) (j : Nat), j < cs.length → (wideBytes cs).getD (2 * j) d = .int (lo8 (cs.getD j 0))
  | [], j, h => absurd h (Nat.not_lt_zero j)
  | c :: cs, 0, _ => rfl
  | c :: cs, j + 1, h => by
    have q := wide_lo d cs j (by simpa using h)
    rw [show 2 * (j + 1) = 2 * j + 1 + 1 from by omega]
    simpa [wideBytes] using q
theorem wide_hi (d : Value) : ∀ (cs : List Int32) (j : Nat), j < cs.length → (wideBytes cs).getD (2 * j + 1) d = .int (hi8 (cs.getD j 0))
  | [], j, h => absurd h (Nat.not_lt_zero j)
  | c :: cs, 0, _ => rfl
  | c :: cs, j + 1, h => by
    have q := wide_hi d cs j (by simpa using h)
    rw [show 2 * (j + 1) + 1 = 2 * j + 1 + 1 + 1 from by omega]
    simpa [wideBytes] using q
theorem low_at (d : Value) (cs : List Int32) (j : Nat) (h : j < cs.length) : (cs.map fun c => Value.int (lo8 c)).getD j d = .int (lo8 (cs.getD j 0)) := by
  simp [List.getD_eq_getElem?_getD, h]
/-- an array of N2 bytes vs codes the chars cs by the coder cd -/
def CodA (cs : List Int32) (cd N2 : Int32) (vs : List Value) : Prop := (cd = 0 ∧ N2 = Int32.ofNat cs.length ∧ vs = (cs.map fun c => Value.int (lo8 c)) ∧ ∀ c ∈ cs, ¬ 255 < c) ∨ (cd = 1 ∧ N2 = Int32.ofNat (2 * cs.length) ∧ vs = wideBytes cs ∧ ∃ c ∈ cs, 255 < c)
theorem CodA.cod {cs : List Int32} {cd N2 : Int32} {vs : List Value} {V : Cell} (h : CodA cs cd N2 vs) (hn : 2 * cs.length < 2 ^ 31) (hs : V.slots.size = N2.toNatClampNeg) (hv : RoadKit.Has V vs (.int 0)) : Cod cd cs.length (fun j => cs.getD j 0) V := by
  rcases h with ⟨rfl, rfl, rfl, h⟩ | ⟨rfl, rfl, rfl, c, hc, hw⟩
  · rw [n32 (by omega)] at hs
    exact Or.inl ⟨rfl, hs, fun j hj => ⟨by rw [hv j (by omega), low_at _ _ _ hj], by
      have e : cs.getD j 0 = cs[j] := by simp [List.getD_eq_getElem?_getD, hj]
      show ¬ 255 < cs.getD j 0
      rw [e]; exact h _ (List.getElem_mem _)⟩⟩
  · rw [n32 (by omega)] at hs
    obtain ⟨j, hj, rfl⟩ := List.getElem_of_mem hc
    exact Or.inr ⟨rfl, hs, fun j hj => ⟨by rw [hv _ (by omega), wide_lo _ _ _ hj], by rw [hv _ (by omega), wide_hi _ _ _ hj]⟩, j, hj, by
      have e : cs.getD j 0 = cs[j] := by simp [List.getD_eq_getElem?_getD, hj]
      show 255 < cs.getD j 0
      rw [e]; exact hw⟩
/-- an object of exactly java/lang/String, its two fields found: as the laws ask it -/
theorem strObj {Z U : State} {a0 : Array Value} {kI : Nat} (wi : (Jvm.Cond.instantiable ST kI).before a0 Z = true) (al : Z.vm.Alike U.vm) {x : Addr} {v0 c0 : Value} (E : RoadKit.Exa Z U.heap x ST) (V : RoadKit.Fld Z U.heap x ST "value" "[B" v0) (C : RoadKit.Fld Z U.heap x ST "coder" "B" c0) :
    ∃ (D : Cell) (fV fC : Field), Blank ST x D U ∧ Found ST "value" "[B" fV U ∧ Found ST "coder" "B" fC U ∧ D.slots[fV.slot]? = some v0 ∧ D.slots[fC.slot]? = some c0 ∧ RoadKit.slotOf Z ST "value" "[B" = fV.slot ∧ RoadKit.slotOf Z ST "coder" "B" = fC.slot := by
  obtain ⟨D, cfV, kV, iV, fV, hD, gV, stV, knV, obV, asV, slV⟩ := V
  obtain ⟨D', cfC, kC, iC, fC, hD', gC, stC, -, -, asC, slC⟩ := C
  cases hD.symm.trans hD'
  obtain ⟨D2, kD, e1, e2, e3, e4, e5⟩ := E
  cases hD.symm.trans e1
  obtain ⟨c2, k2, i1, i2, i3, -⟩ := Cond.instantiable_spec wi
  cases e2.symm.trans i1
  cases e3.symm.trans i2
  obtain ⟨kU, u1, u2⟩ := al.2.2 _ _ e3
  exact ⟨D, fV, fC, ⟨hD, ⟨knV, fun q hq => by rw [hq] at obV; cases obV⟩, by rw [al.findClass]; exact e2, kU, u1, by rw [u2]; exact i3, by rw [u2]; exact e5 i3⟩, ⟨SBG.found_only al ⟨cfV, kV, iV, gV⟩, stV⟩, ⟨SBG.found_only al ⟨cfC, kC, iC, gC⟩, stC⟩, slV, slC, by simp [RoadKit.slotOf, gV], by simp [RoadKit.slotOf, gC]⟩
theorem sta_is {Z U : State} (al : Z.vm.Alike U.vm) {C n d : String} {v : Value} (S : RoadKit.Sta Z U.heap C n d v) : StaticIs U C n d v := by
  obtain ⟨cfS, iS, kS, fS, st, cS, t1, t2, t3, t4, t5, t6, t7⟩ := S
  exact StaticIs.there (s := { Z with heap := U.heap }) ⟨cfS, iS, kS, fS, st, cS, t1, t2, t3, t4, t5, (fun q => by rw [q] at t6; cases t6), t7⟩ al rfl
end StrChars.Road
namespace StrChars
open Jvm Sem ClassFile Op Lib Jvm.Stand Jvm.Free.XT Jvm.Free.ALB Jvm.Free.JM Jvm.Free
open Jvm.Lib.Cold (StaticIs)
/-- what place i of a byte[]'s cell holds -/
def yv (A : Cell) (i : Nat) : Int32 := match A.slots[i]? with | some (.int x) => x | _ => 0
theorem yv_get {a : Addr} {A : Cell} {U : State} (h : XT.Arr .byte a A U) (ht : Typed .byte A) {i : Nat} (hi : i < A.slots.size) : A.slots[i]? = some (.int (yv A i)) := by
  have e := Array.getElem?_eq_getElem hi
  have f := ht i _ e
  unfold yv; rw [e]
  generalize A.slots[i] = v at f
  cases v <;> simp [fits] at f ⊢
/-- the two arrays are equal, place for place -/
def EqC (A B : Cell) : Prop := A.slots.size = B.slots.size ∧ ∀ i, i < A.slots.size → yv A i = yv B i
/-- a boolean that says whether p -/
def Says01 (q : Prop) (r : Option Value) (s u : State) : Prop := ∃ v : Int32, r = some (.int v) ∧ u.heap = s.heap ∧ ((v = 1 ∧ q) ∨ (v = 0 ∧ ¬ q))
theorem Says01.mv {q : Prop} : ∀ r (U U' V V' : State), U'.heap = U.heap → V.vm.Alike V'.vm → V'.heap = V.heap → Says01 q r U V → Says01 q r U' V' :=
  fun r U U' V V' h1 _ h2 ⟨v, a, b, c⟩ => ⟨v, a, by rw [h1, h2]; exact b, c⟩
namespace LEq
def yN : MethodName := ⟨"java/lang/StringLatin1", "equals", "([B[B)Z"⟩
abbrev yB : ByteArray := jdk_43_method_13_code
theorem d0 : decode yB 0 = .ok (.aload_n 0, 1) := by decide +kernel
theorem d1 : decode yB 1 = .ok (.arraylength, 1) := by decide +kernel
theorem d2 : decode yB 2 = .ok (.aload_n 1, 1) := by decide +kernel
theorem d3 : decode yB 3 = .ok (.arraylength, 1) := by decide +kernel
theorem d4 : decode yB 4 = .ok (.if_icmp (.ne) 30, 3) := by decide +kernel
theorem d7 : decode yB 7 = .ok (.iconst 0, 1) := by decide +kernel
theorem d8 : decode yB 8 = .ok (.istore_n 2, 1) := by decide +kernel
theorem d9 : decode yB 9 = .ok (.iload_n 2, 1) := by decide +kernel
theorem d10 : decode yB 10 = .ok (.aload_n 0, 1) := by decide +kernel
theorem d11 : decode yB 11 = .ok (.arraylength, 1) := by decide +kernel
theorem d12 : decode yB 12 = .ok (.if_icmp (.ge) 20, 3) := by decide +kernel
theorem d15 : decode yB 15 = .ok (.aload_n 0, 1) := by decide +kernel
theorem d16 : decode yB 16 = .ok (.iload_n 2, 1) := by decide +kernel
theorem d17 : decode yB 17 = .ok (.baload, 1) := by decide +kernel
theorem d18 : decode yB 18 = .ok (.aload_n 1, 1) := by decide +kernel
theorem d19 : decode yB 19 = .ok (.iload_n 2, 1) := by decide +kernel
theorem d20 : decode yB 20 = .ok (.baload, 1) := by decide +kernel
theorem d21 : decode yB 21 = .ok (.if_icmp (.eq) 5, 3) := by decide +kernel
theorem d24 : decode yB 24 = .ok (.iconst 0, 1) := by decide +kernel
theorem d25 : decode yB 25 = .ok (.ireturn, 1) := by decide +kernel
theorem d26 : decode yB 26 = .ok (.iinc 2 1, 3) := by decide +kernel
theorem d29 : decode yB 29 = .ok (.goto (-20), 3) := by decide +kernel
theorem d32 : decode yB 32 = .ok (.iconst 1, 1) := by decide +kernel
theorem d33 : decode yB 33 = .ok (.ireturn, 1) := by decide +kernel
theorem d34 : decode yB 34 = .ok (.iconst 0, 1) := by decide +kernel
theorem d35 : decode yB 35 = .ok (.ireturn, 1) := by decide +kernel
def site : List Cond := []
def tab : Cond := tabOf yN yB 3 (some .boolean) site
def P (a : Addr) (A : Cell) (b : Addr) (B : Cell) (args : Array Value) (s : State) : Prop := args = #[.ref a, .ref b] ∧ XT.Arr .byte a A s ∧ Typed .byte A ∧ XT.Arr .byte b B s ∧ Typed .byte B
/-- whether two byte[] are equal, place for place -/
theorem law (l : Launch) (a : Addr) (A : Cell) (b : Addr) (B : Cell) : Law l yN 2 2 0 0 yB 3 (some .boolean) site (P a A b B) (Says01 (EqC A B)) [] 0 0 := by
  refine Law.of_walk (plainFor_of_name (by decide +kernel)) (by decide +kernel) (by decide +kernel) (by decide) (fun _ _ h => by rw [h.1]; rfl) (fun _ U U' hal hh h => ⟨h.1, h.2.1.mv hal hh, h.2.2.1, h.2.2.2.1.mv hal hh, h.2.2.2.2⟩) (fun r U U' V V' h1 hal h2 h => Says01.mv r U U' V V' h1 hal h2 h) ?_
  intro p e s m args below meth c s₁ X0 hexec hbytes hml hret hlk hnm hown hh0 W hP
  obtain ⟨rfl, hA, tA, hB, tB⟩ := hP
  have a31 := hA.2.2.2
  have b31 := hB.2.2.2
  have hA0 := hA.mv X0.warmed.alike hh0
  have hB0 := hB.mv X0.warmed.alike hh0
  have c1 : Steps p.tables e below (s₁.setTop (entryFrame m #[.ref a, .ref b] 3)) (s₁.setTop (mkF m 0 #[.val (.ref a), .val (.ref b), .unset] [])) := entry rfl
  have c2 : Steps p.tables e below (s₁.setTop (entryFrame m #[.ref a, .ref b] 3)) (s₁.setTop (mkF m 4 #[.val (.ref a), .val (.ref b), .unset] [.int (Int32.ofNat B.slots.size), .int (Int32.ofNat A.slots.size)])) := c1.trans (by
    refine XS.aloadN X0.here hexec rfl (hb hbytes d0) rfl rfl ?_
    refine X0.alen hexec hA0 rfl rfl (hb hbytes d1) ?_
    refine XS.aloadN X0.here hexec rfl (hb hbytes d2) rfl rfl ?_
    refine X0.alen hexec hB0 rfl rfl (hb hbytes d3) ?_
    exact Steps.refl _)
  by_cases hs : A.slots.size = B.slots.size
  · have c3 : Steps p.tables e below (s₁.setTop (entryFrame m #[.ref a, .ref b] 3)) (s₁.setTop (mkF m 9 #[.val (.ref a), .val (.ref b), .val (.int 0)] [])) := c2.trans (by
      refine XS.icmpNo X0.here hexec rfl (hb hbytes d4) rfl (ii_ne_f (by rw [hs])) ?_
      refine iconstV X0.here hexec rfl 0 (hb hbytes d7) (by decide) ?_
      refine XS.istoreN X0.here hexec rfl (hb hbytes d8) rfl rfl ?_
      exact Steps.refl _)
    have loop : ∀ (r i : Nat), i + r = A.slots.size → (∀ j, j < i → yv A j = yv B j) → Steps p.tables e below (s₁.setTop (entryFrame m #[.ref a, .ref b] 3)) (s₁.setTop (mkF m 9 #[.val (.ref a), .val (.ref b), .val (.int (Int32.ofNat i))] [])) → ∃ (pc : Nat) (Ls : Array Slot) (v : Int32), (pc = 25 ∨ pc = 33) ∧ ((v = 1 ∧ EqC A B) ∨ (v = 0 ∧ ¬ EqC A B)) ∧ Steps p.tables e below (s₁.setTop (entryFrame m #[.ref a, .ref b] 3)) (s₁.setTop (mkF m pc Ls [.int v])) := by
      intro r
      induction r with
      | zero =>
        intro i hi he cl
        exact ⟨33, _, 1, Or.inr rfl, Or.inl ⟨rfl, hs, fun j hj => he j (by omega)⟩, cl.trans (by
          refine XS.iloadN X0.here hexec rfl (hb hbytes d9) rfl ?_
          refine XS.aloadN X0.here hexec rfl (hb hbytes d10) rfl rfl ?_
          refine X0.alen hexec hA0 rfl rfl (hb hbytes d11) ?_
          refine XS.icmpYes X0.here hexec rfl (pc0 := 12) rfl (hb hbytes d12) rfl (ii_ge_t (nlt32 (by omega) (by omega))) (by decide) rfl ?_
          refine iconstV X0.here hexec rfl 1 (hb hbytes d32) (by decide) ?_
          exact Steps.refl _)⟩
      | succ r ih =>
        intro i hi he cl
        have c4 : Steps p.tables e below (s₁.setTop (entryFrame m #[.ref a, .ref b] 3)) (s₁.setTop (mkF m 21 #[.val (.ref a), .val (.ref b), .val (.int (Int32.ofNat i))] [.int (yv B i), .int (yv A i)])) := cl.trans (by
          refine XS.iloadN X0.here hexec rfl (hb hbytes d9) rfl ?_
          refine XS.aloadN X0.here hexec rfl (hb hbytes d10) rfl rfl ?_
          refine X0.alen hexec hA0 rfl rfl (hb hbytes d11) ?_
          refine XS.icmpNo X0.here hexec rfl (hb hbytes d12) rfl (ii_ge_f (lt32 (by omega) (by omega))) ?_
          refine XS.aloadN X0.here hexec rfl (hb hbytes d15) rfl rfl ?_
          refine XS.iloadN X0.here hexec rfl (hb hbytes d16) rfl ?_
          refine X0.aget hexec hA0 rfl (yv_get hA tA (i := i) (by omega)) rfl rfl (hb hbytes d17) ?_
          refine XS.aloadN X0.here hexec rfl (hb hbytes d18) rfl rfl ?_
          refine XS.iloadN X0.here hexec rfl (hb hbytes d19) rfl ?_
          refine X0.aget hexec hB0 rfl (yv_get hB tB (i := i) (by omega)) rfl rfl (hb hbytes d20) ?_
          exact Steps.refl _)
        by_cases hv : yv A i = yv B i
        · have c5 : Steps p.tables e below (s₁.setTop (entryFrame m #[.ref a, .ref b] 3)) (s₁.setTop (mkF m 9 #[.val (.ref a), .val (.ref b), .val (.int (Int32.ofNat i + 1))] [])) := c4.trans (by
            refine XS.icmpYes X0.here hexec rfl (pc0 := 21) rfl (hb hbytes d21) rfl (ii_eq_t hv) (by decide) rfl ?_
            refine iincV X0.here hexec rfl 1 (hb hbytes d26) (by decide) rfl rfl ?_
            refine XS.goto X0.here hexec rfl (pc0 := 29) rfl (hb hbytes d29) (by decide) rfl ?_
            exact Steps.refl _)
          rw [succ32] at c5
          exact ih (i + 1) (by omega) (fun j hj => by
            by_cases e : j = i
            · rw [e]; exact hv
            · exact he j (by omega)) c5
        · exact ⟨25, _, 0, Or.inl rfl, Or.inr ⟨rfl, fun q => hv (q.2 i (by omega))⟩, c4.trans (by
            refine XS.icmpNo X0.here hexec rfl (hb hbytes d21) rfl (ii_eq_f hv) ?_
            refine iconstV X0.here hexec rfl 0 (hb hbytes d24) (by decide) ?_
            exact Steps.refl _)⟩
    obtain ⟨pc, Ls, v, hpc, hv, cz⟩ := loop A.slots.size 0 (by omega) (fun j hj => absurd hj (Nat.not_lt_zero j)) c3
    have nv : narrow .boolean (.int v) = .int v := by rcases hv with ⟨rfl, -⟩ | ⟨rfl, -⟩ <;> rfl
    rcases hpc with rfl | rfl
    · exact ⟨s₁, some (.int v), _, _, _, X0, rfl, rfl, rfl, (fun h => by cases h), ⟨v, rfl, hh0, hv⟩, fun fs hl => cz.trans (X0.ireturnOut hexec hret nv (Or.inr (Or.inl rfl)) (hb hbytes d25) hl)⟩
    · exact ⟨s₁, some (.int v), _, _, _, X0, rfl, rfl, rfl, (fun h => by cases h), ⟨v, rfl, hh0, hv⟩, fun fs hl => cz.trans (X0.ireturnOut hexec hret nv (Or.inr (Or.inl rfl)) (hb hbytes d33) hl)⟩
  · have c3 : Steps p.tables e below (s₁.setTop (entryFrame m #[.ref a, .ref b] 3)) (s₁.setTop (mkF m 35 #[.val (.ref a), .val (.ref b), .unset] [.int 0])) := c2.trans (by
      refine XS.icmpYes X0.here hexec rfl (pc0 := 4) rfl (hb hbytes d4) rfl (ii_ne_t (ne32 a31 b31 hs)) (by decide) rfl ?_
      refine iconstV X0.here hexec rfl 0 (hb hbytes d34) (by decide) ?_
      exact Steps.refl _)
    exact ⟨s₁, some (.int 0), _, _, _, X0, rfl, rfl, rfl, (fun h => by cases h), ⟨0, rfl, hh0, Or.inr ⟨rfl, fun q => hs q.1⟩⟩, fun fs hl => c3.trans (X0.ireturnOut hexec hret rfl (Or.inr (Or.inl rfl)) (hb hbytes d35) hl)⟩
end LEq
theorem Cod.ty {cd : Int32} {n : Nat} {f : Nat → Int32} {V : Cell} (h : Cod cd n f V) : Typed .byte V := fun i v hv => by
  have hi : i < V.slots.size := (Array.getElem?_eq_some_iff.mp hv).1
  rcases h with ⟨-, k1, k2⟩ | ⟨-, k1, k2, -⟩
  · rw [(k2 i (by omega)).1] at hv; cases hv; exact fits_lo8 _
  · rcases Nat.mod_two_eq_zero_or_one i with e | e
    · obtain ⟨j, rfl⟩ : ∃ j, i = 2 * j := ⟨i / 2, by omega⟩
      rw [(k2 j (by omega)).1] at hv; cases hv; exact fits_lo8 _
    · obtain ⟨j, rfl⟩ : ∃ j, i = 2 * j + 1 := ⟨i / 2, by omega⟩
      rw [(k2 j (by omega)).2] at hv; cases hv; exact fits_lo8 _
/-- the same text -/
def SameT (n : Nat) (f : Nat → Int32) (k : Nat) (g : Nat → Int32) : Prop := n = k ∧ ∀ j, j < n → f j = g j
theorem lo8_inj {x y : Int32} (h0 : ¬ x < 0) (h1 : ¬ 255 < x) (k0 : ¬ y < 0) (k1 : ¬ 255 < y) (h : lo8 x = lo8 y) : x = y := by
  rw [← lo8_mask h0 h1, ← lo8_mask k0 k1, h]
/-- arrays coded by one coder are equal just where the texts are -/
theorem Cod.eqv {cd : Int32} {n k : Nat} {f g : Nat → Int32} {V V' : Cell} (h : Cod cd n f V) (h' : Cod cd k g V') (hf : ∀ j, j < n → ¬ f j < 0 ∧ ¬ 65535 < f j) (hg : ∀ j, j < k → ¬ g j < 0 ∧ ¬ 65535 < g j) : EqC V V' ↔ SameT n f k g := by
  have yvv : ∀ {W : Cell} {i : Nat} {x : Int32}, W.slots[i]? = some (.int x) → yv W i = x := fun q => by unfold yv; rw [q]
  rcases h with ⟨rfl, k1, k2⟩ | ⟨rfl, k1, k2, -⟩
  · rcases h' with ⟨-, m1, m2⟩ | ⟨e, -⟩
    · constructor
      · rintro ⟨e1, e2⟩
        refine ⟨by omega, fun j hj => ?_⟩
        have q := e2 j (by omega)
        rw [yvv (k2 j hj).1, yvv (m2 j (by omega)).1] at q
        exact lo8_inj (hf j hj).1 (k2 j hj).2 (hg j (by omega)).1 (m2 j (by omega)).2 q
      · rintro ⟨rfl, e2⟩
        refine ⟨by omega, fun j hj => ?_⟩
        rw [yvv (k2 j (by omega)).1, yvv (m2 j (by omega)).1, e2 j (by omega)]
    · exact absurd e (by decide)
  · rcases h' with ⟨e, -⟩ | ⟨-, m1, m2, -⟩
    · exact absurd e (by decide)
    · constructor
      · rintro ⟨e1, e2⟩
        refine ⟨by omega, fun j hj => ?_⟩
        have q1 := e2 (2 * j) (by omega)
        have q2 := e2 (2 * j + 1) (by omega)
        rw [yvv (k2 j hj).1, yvv (m2 j (by omega)).1] at q1
        rw [yvv (k2 j hj).2, yvv (m2 j (by omega)).2] at q2
        rw [← pair_says (hf j hj).1 (hf j hj).2, ← pair_says (hg j (by omega)).1 (hg j (by omega)).2, q1, q2]
      · rintro ⟨rfl, e2⟩
        refine ⟨by omega, fun i hi => ?_⟩
        rcases Nat.mod_two_eq_zero_or_one i with e | e
        · obtain ⟨j, rfl⟩ : ∃ j, i = 2 * j := ⟨i / 2, by omega⟩
          rw [yvv (k2 j (by omega)).1, yvv (m2 j (by omega)).1, e2 j (by omega)]
        · obtain ⟨j, rfl⟩ : ∃ j, i = 2 * j + 1 := ⟨i / 2, by omega⟩
          rw [yvv (k2 j (by omega)).2, yvv (m2 j (by omega)).2, e2 j (by omega)]
/-- two codings differ: so do the texts -/
theorem Cod.dif {cd cd' : Int32} {n k : Nat} {f g : Nat → Int32} {V V' : Cell} (h : Cod cd n f V) (h' : Cod cd' k g V') (hne : ¬ cd = cd') : ¬ SameT n f k g := by
  rintro ⟨rfl, e⟩
  rcases h with ⟨rfl, -, k2⟩ | ⟨rfl, -, -, j, hj, hw⟩
  · rcases h' with ⟨rfl, -⟩ | ⟨-, -, -, j, hj, hw⟩
    · exact hne rfl
    · exact (k2 j hj).2 (by rw [e j hj]; exact hw)
  · rcases h' with ⟨-, -, m2⟩ | ⟨rfl, -⟩
    · exact (m2 j hj).2 (by rw [← e j hj]; exact hw)
    · exact hne rfl
/-- an object of exactly C is an instance of C -/
theorem cinst {p : Program} {l : Launch} {e : Env} {R : Room} {s : State} {m : MethodId} {args : Array Value} {below : List Frame} {meth : Method} {c : Code} {T : State} {locs : List Loc} {cells slots : Nat} (X : Stand p l e R s m args below meth c T locs cells slots) (hexec : p.tables.exec = Jvm.exec) {own C : String} {index : Nat} (hown : s.vm.findClass own = some m.cls) (hlink : (Cond.classLink own index C).before args s = true) {a : Addr} (hE : Exact C a T)
    {g : JFrame} (hg : g.method = m) {rest : List Value} (hstack : g.stack = .ref a :: rest) (hdg : decode c.code g.pc = .ok (.instanceof index, 3)) :
    ∃ T', Stand p l e R s m args below meth c T' locs cells slots ∧ T'.heap = T.heap ∧ ∀ target, Steps p.tables e below (T'.setTop { g with pc := g.pc + 3, stack := .int 1 :: rest }) target → Steps p.tables e below (T.setTop g) target := by
  obtain ⟨cB, h1, D, h2, h3, h4⟩ := hE
  have h1' : s.vm.findClass C = some cB := by rw [← X.warmed.alike.findClass]; exact h1
  obtain ⟨vm', X', st⟩ := X.instanceofYes hexec hown hlink h2 h4 h1' (by rw [h3]; exact Jvm.Free.SB.assignable_self _ _) hg hstack hdg
  exact ⟨_, X', rfl, st⟩
theorem cself {p : Program} {l : Launch} {e : Env} {R : Room} {s : State} {m : MethodId} {args : Array Value} {below : List Frame} {meth : Method} {c : Code} {T : State} {locs : List Loc} {cells slots : Nat} (X : Stand p l e R s m args below meth c T locs cells slots) (hexec : p.tables.exec = Jvm.exec) {own C : String} {index : Nat} (hown : s.vm.findClass own = some m.cls) (hlink : (Cond.classLink own index C).before args s = true) {a : Addr} (hE : Exact C a T)
    {g : JFrame} (hg : g.method = m) {rest : List Value} (hstack : g.stack = .ref a :: rest) (hdg : decode c.code g.pc = .ok (.checkcast index, 3)) :
    ∃ T', Stand p l e R s m args below meth c T' locs cells slots ∧ T'.heap = T.heap ∧ ∀ target, Steps p.tables e below (T'.setTop { g with pc := g.pc + 3, stack := .ref a :: rest }) target → Steps p.tables e below (T.setTop g) target := by
  obtain ⟨cB, h1, D, h2, h3, h4⟩ := hE
  have h1' : s.vm.findClass C = some cB := by rw [← X.warmed.alike.findClass]; exact h1
  obtain ⟨vm', X', st⟩ := X.checkcastYes hexec hown hlink h2 h4 h1' (by rw [h3]; exact Jvm.Free.SB.assignable_self _ _) hg hstack hdg
  exact ⟨_, X', rfl, fun t h => st t (by rw [← hstack] at h; exact h)⟩
namespace SEq
def yN : MethodName := ⟨"java/lang/String", "equals", "(Ljava/lang/Object;)Z"⟩
abbrev yB : ByteArray := jdk_42_method_66_code
theorem d0 : decode yB 0 = .ok (.aload_n 0, 1) := by decide +kernel
theorem d1 : decode yB 1 = .ok (.aload_n 1, 1) := by decide +kernel
theorem d2 : decode yB 2 = .ok (.if_acmp (.ne) 5, 3) := by decide +kernel
theorem d5 : decode yB 5 = .ok (.iconst 1, 1) := by decide +kernel
theorem d6 : decode yB 6 = .ok (.ireturn, 1) := by decide +kernel
theorem d7 : decode yB 7 = .ok (.aload_n 1, 1) := by decide +kernel
theorem d8 : decode yB 8 = .ok (.instanceof 10, 3) := by decide +kernel
theorem d11 : decode yB 11 = .ok (.ifCond (.eq) 43, 3) := by decide +kernel
theorem d14 : decode yB 14 = .ok (.aload_n 1, 1) := by decide +kernel
theorem d15 : decode yB 15 = .ok (.checkcast 10, 3) := by decide +kernel
theorem d18 : decode yB 18 = .ok (.astore_n 2, 1) := by decide +kernel
theorem d19 : decode yB 19 = .ok (.getstatic 38, 3) := by decide +kernel
theorem d22 : decode yB 22 = .ok (.ifCond (.eq) 14, 3) := by decide +kernel
theorem d25 : decode yB 25 = .ok (.aload_n 0, 1) := by decide +kernel
theorem d26 : decode yB 26 = .ok (.getfield 15, 3) := by decide +kernel
theorem d29 : decode yB 29 = .ok (.aload_n 2, 1) := by decide +kernel
theorem d30 : decode yB 30 = .ok (.getfield 15, 3) := by decide +kernel
theorem d33 : decode yB 33 = .ok (.if_icmp (.ne) 21, 3) := by decide +kernel
theorem d36 : decode yB 36 = .ok (.aload_n 0, 1) := by decide +kernel
theorem d37 : decode yB 37 = .ok (.getfield 9, 3) := by decide +kernel
theorem d40 : decode yB 40 = .ok (.aload_n 2, 1) := by decide +kernel
theorem d41 : decode yB 41 = .ok (.getfield 9, 3) := by decide +kernel
theorem d44 : decode yB 44 = .ok (.invokestatic 541, 3) := by decide +kernel
theorem d47 : decode yB 47 = .ok (.ifCond (.eq) 7, 3) := by decide +kernel
theorem d50 : decode yB 50 = .ok (.iconst 1, 1) := by decide +kernel
theorem d51 : decode yB 51 = .ok (.goto 4, 3) := by decide +kernel
theorem d54 : decode yB 54 = .ok (.iconst 0, 1) := by decide +kernel
theorem d55 : decode yB 55 = .ok (.ireturn, 1) := by decide +kernel
def site : List Cond := [.classLink "java/lang/String" 10 "java/lang/String", .fieldLink "java/lang/String" 38 "java/lang/String" "COMPACT_STRINGS" "Z", .fieldLink "java/lang/String" 15 "java/lang/String" "coder" "B", .fieldLink "java/lang/String" 9 "java/lang/String" "value" "[B", LEq.tab] ++ staticW "java/lang/String" 541 LEq.yN
def tab : Cond := tabOf yN yB 3 (some .boolean) site
def P (x t : Addr) (V : Cell) (cd : Int32) (n : Nat) (f : Nat → Int32) (y t' : Addr) (V' : Cell) (cd' : Int32) (k : Nat) (g : Nat → Int32) (z : Int32) (args : Array Value) (s : State) : Prop := args = #[.ref x, .ref y] ∧ Txt x t V cd n f s ∧ Txt y t' V' cd' k g s ∧ StaticIs s "java/lang/String" "COMPACT_STRINGS" "Z" (.int z) ∧ ¬ z = 0
/-- equals(Object) of two Strings: whether the texts are the same -/
theorem law (l : Launch) (x t : Addr) (V : Cell) (cd : Int32) (n : Nat) (f : Nat → Int32) (y t' : Addr) (V' : Cell) (cd' : Int32) (k : Nat) (g : Nat → Int32) (z : Int32) : Law l yN 2 1 1 14 yB 3 (some .boolean) site (P x t V cd n f y t' V' cd' k g z) (Says01 (SameT n f k g)) [] 0 0 := by
  refine Law.of_walk (plainFor_of_name (by decide +kernel)) (by decide +kernel) (by decide +kernel) (by decide) (fun _ _ h => by rw [h.1]; rfl) (fun _ U U' hal hh h => ⟨h.1, h.2.1.mv hal hh, h.2.2.1.mv hal hh, h.2.2.2.1.there hal hh, h.2.2.2.2⟩) (fun r U U' V V' h1 hal h2 h => Says01.mv r U U' V V' h1 hal h2 h) ?_
  intro p e s m args below meth c s₁ X0 hexec hbytes hml hret hlk hnm hown hh0 W hP
  obtain ⟨rfl, hx, hy, s1, hz⟩ := hP
  have c1 : Steps p.tables e below (s₁.setTop (entryFrame m #[.ref x, .ref y] 3)) (s₁.setTop (mkF m 2 #[.val (.ref x), .val (.ref y), .unset] [.ref y, .ref x])) := Steps.trans (entry rfl) (by
    show Steps p.tables e below (s₁.setTop (mkF m 0 #[.val (.ref x), .val (.ref y), .unset] [])) _
    refine XS.aloadN X0.here hexec rfl (hb hbytes d0) rfl rfl ?_
    refine XS.aloadN X0.here hexec rfl (hb hbytes d1) rfl rfl ?_
    exact Steps.refl _)
  by_cases hxy : x = y
  · have c2 : Steps p.tables e below (s₁.setTop (entryFrame m #[.ref x, .ref y] 3)) (s₁.setTop (mkF m 6 #[.val (.ref x), .val (.ref y), .unset] [.int 1])) := c1.trans (by
      refine acmpNo X0.here hexec rfl (hb hbytes d2) rfl rfl rfl (by simp [acmp, hxy]) ?_
      refine iconstV X0.here hexec rfl 1 (hb hbytes d5) (by decide) ?_
      exact Steps.refl _)
    subst hxy
    have ec : cd = cd' := by
      obtain ⟨D, fd, a1, a2, a3⟩ := hx.2.2.1
      obtain ⟨D', fd', b1, b2, b3⟩ := hy.2.2.1
      cases a1.symm.trans b1
      obtain ⟨q1, q2, q3, q4⟩ := a2.1
      obtain ⟨r1, r2, r3, r4⟩ := b2.1
      cases q4.symm.trans r4
      cases a3.symm.trans b3; rfl
    have et : t = t' := by
      obtain ⟨D, fd, a1, a2, a3⟩ := hx.2.1
      obtain ⟨D', fd', b1, b2, b3⟩ := hy.2.1
      cases a1.symm.trans b1
      obtain ⟨q1, q2, q3, q4⟩ := a2.1
      obtain ⟨r1, r2, r3, r4⟩ := b2.1
      cases q4.symm.trans r4
      cases a3.symm.trans b3; rfl
    subst ec et
    have ev : V = V' := by cases hx.2.2.2.1.1.symm.trans hy.2.2.2.1.1; rfl
    subst ev
    have hs : SameT n f k g := (Cod.eqv hx.2.2.2.2.1 hy.2.2.2.2.1 hx.2.2.2.2.2 hy.2.2.2.2.2).mp ⟨rfl, fun _ _ => rfl⟩
    exact ⟨s₁, some (.int 1), _, _, _, X0, rfl, rfl, rfl, (fun h => by cases h), ⟨1, rfl, hh0, Or.inl ⟨rfl, hs⟩⟩, fun fs hl => c2.trans (X0.ireturnOut hexec hret rfl (Or.inr (Or.inl rfl)) (hb hbytes d6) hl)⟩
  · have c2 : Steps p.tables e below (s₁.setTop (entryFrame m #[.ref x, .ref y] 3)) (s₁.setTop (mkF m 8 #[.val (.ref x), .val (.ref y), .unset] [.ref y])) := c1.trans (by
      refine acmpYes X0.here hexec rfl (pc0 := 2) rfl (hb hbytes d2) rfl rfl rfl (by simp [acmp, hxy]) (by decide) rfl ?_
      refine XS.aloadN X0.here hexec rfl (hb hbytes d7) rfl rfl ?_
      exact Steps.refl _)
    obtain ⟨T3, X3, q3, st3⟩ := cinst X0 hexec hown (wk W (.classLink "java/lang/String" 10 "java/lang/String")) (hy.mv X0.warmed.alike hh0).1 (g := (mkF m 8 #[.val (.ref x), .val (.ref y), .unset] [.ref y])) rfl (rest := []) rfl (hb hbytes d8)
    have hh3 := q3.trans hh0
    have c4 : Steps p.tables e below (s₁.setTop (entryFrame m #[.ref x, .ref y] 3)) (T3.setTop (mkF m 15 #[.val (.ref x), .val (.ref y), .unset] [.ref y])) := (c2.trans (st3 _ (Steps.refl _))).trans (by
      refine XS.ifNo X3.here hexec rfl (hb hbytes d11) rfl (i0_eq_f (by decide)) ?_
      refine XS.aloadN X3.here hexec rfl (hb hbytes d14) rfl rfl ?_
      exact Steps.refl _)
    obtain ⟨T5, X5, q5, st5⟩ := cself X3 hexec hown (wk W (.classLink "java/lang/String" 10 "java/lang/String")) (hy.mv X3.warmed.alike hh3).1 (g := (mkF m 15 #[.val (.ref x), .val (.ref y), .unset] [.ref y])) rfl (rest := []) rfl (hb hbytes d15)
    have hh5 := q5.trans hh3
    have c6 : Steps p.tables e below (s₁.setTop (entryFrame m #[.ref x, .ref y] 3)) (T5.setTop (mkF m 19 #[.val (.ref x), .val (.ref y), .val (.ref y)] [])) := (c4.trans (st5 _ (Steps.refl _))).trans (by
      refine XS.astoreN X5.here hexec rfl (hb hbytes d18) rfl rfl rfl ?_
      exact Steps.refl _)
    obtain ⟨T7, X7, q7, st7⟩ := X5.sget hexec hown (wk W (.fieldLink "java/lang/String" 38 "java/lang/String" "COMPACT_STRINGS" "Z")) s1 (fun _ _ h => by rw [hh5]; exact h) (g := (mkF m 19 #[.val (.ref x), .val (.ref y), .val (.ref y)] [])) rfl (hb hbytes d19)
    have hh7 := q7.trans hh5
    have c8 : Steps p.tables e below (s₁.setTop (entryFrame m #[.ref x, .ref y] 3)) (T7.setTop (mkF m 26 #[.val (.ref x), .val (.ref y), .val (.ref y)] [.ref x])) := (c6.trans (st7 _ (Steps.refl _))).trans (by
      refine XS.ifNo X7.here hexec rfl (hb hbytes d22) rfl (i0_eq_f hz) ?_
      refine XS.aloadN X7.here hexec rfl (hb hbytes d25) rfl rfl ?_
      exact Steps.refl _)
    obtain ⟨T9, X9, q9, st9⟩ := X7.hget hexec hown (wk W (.fieldLink "java/lang/String" 15 "java/lang/String" "coder" "B")) (hx.mv X7.warmed.alike hh7).2.2.1 (g := (mkF m 26 #[.val (.ref x), .val (.ref y), .val (.ref y)] [.ref x])) rfl (rest := []) rfl (hb hbytes d26)
    have hh9 := q9.trans hh7
    have c10 : Steps p.tables e below (s₁.setTop (entryFrame m #[.ref x, .ref y] 3)) (T9.setTop (mkF m 30 #[.val (.ref x), .val (.ref y), .val (.ref y)] [.ref y, .int cd])) := (c8.trans (st9 _ (Steps.refl _))).trans (by
      refine XS.aloadN X9.here hexec rfl (hb hbytes d29) rfl rfl ?_
      exact Steps.refl _)
    obtain ⟨T11, X11, q11, st11⟩ := X9.hget hexec hown (wk W (.fieldLink "java/lang/String" 15 "java/lang/String" "coder" "B")) (hy.mv X9.warmed.alike hh9).2.2.1 (g := (mkF m 30 #[.val (.ref x), .val (.ref y), .val (.ref y)] [.ref y, .int cd])) rfl (rest := [.int cd]) rfl (hb hbytes d30)
    have hh11 := q11.trans hh9
    have c12 : Steps p.tables e below (s₁.setTop (entryFrame m #[.ref x, .ref y] 3)) (T11.setTop (mkF m 33 #[.val (.ref x), .val (.ref y), .val (.ref y)] [.int cd', .int cd])) := c10.trans (st11 _ (Steps.refl _))
    by_cases hcd : cd = cd'
    · subst hcd
      have c13 : Steps p.tables e below (s₁.setTop (entryFrame m #[.ref x, .ref y] 3)) (T11.setTop (mkF m 37 #[.val (.ref x), .val (.ref y), .val (.ref y)] [.ref x])) := c12.trans (by
        refine XS.icmpNo X11.here hexec rfl (hb hbytes d33) rfl (ii_ne_f rfl) ?_
        refine XS.aloadN X11.here hexec rfl (hb hbytes d36) rfl rfl ?_
        exact Steps.refl _)
      obtain ⟨T14, X14, q14, st14⟩ := X11.hget hexec hown (wk W (.fieldLink "java/lang/String" 9 "java/lang/String" "value" "[B")) (hx.mv X11.warmed.alike hh11).2.1 (g := (mkF m 37 #[.val (.ref x), .val (.ref y), .val (.ref y)] [.ref x])) rfl (rest := []) rfl (hb hbytes d37)
      have hh14 := q14.trans hh11
      have c15 : Steps p.tables e below (s₁.setTop (entryFrame m #[.ref x, .ref y] 3)) (T14.setTop (mkF m 41 #[.val (.ref x), .val (.ref y), .val (.ref y)] [.ref y, .ref t])) := (c13.trans (st14 _ (Steps.refl _))).trans (by
        refine XS.aloadN X14.here hexec rfl (hb hbytes d40) rfl rfl ?_
        exact Steps.refl _)
      obtain ⟨T16, X16, q16, st16⟩ := X14.hget hexec hown (wk W (.fieldLink "java/lang/String" 9 "java/lang/String" "value" "[B")) (hy.mv X14.warmed.alike hh14).2.1 (g := (mkF m 41 #[.val (.ref x), .val (.ref y), .val (.ref y)] [.ref y, .ref t])) rfl (rest := [.ref t]) rfl (hb hbytes d41)
      have hh16 := q16.trans hh14
      have c17 : Steps p.tables e below (s₁.setTop (entryFrame m #[.ref x, .ref y] 3)) (T16.setTop (mkF m 44 #[.val (.ref x), .val (.ref y), .val (.ref y)] [.ref t', .ref t])) := c15.trans (st16 _ (Steps.refl _))
      obtain ⟨v18, T18, X18, E18, g18⟩ := X16.callS hexec (LEq.law l t V t' V') hown (wks W (staticW "java/lang/String" 541 LEq.yN)) (wk W LEq.tab) (W := 0) (Nat.le_of_ble_eq_true rfl) (Nat.le_of_ble_eq_true rfl) (Nat.le_refl _) (Nat.le_refl _) (g := (mkF m 44 #[.val (.ref x), .val (.ref y), .val (.ref y)] [.ref t', .ref t])) rfl (by rw [hml]; rfl) c17 (argsL := [.ref t, .ref t']) (rest := []) rfl rfl (by show 2 * 0 + 0 ≤ _; decide) (hb hbytes d44) (⟨rfl, hx.2.2.2.1.mv X16.warmed.alike hh16, hx.2.2.2.2.1.ty, hy.2.2.2.1.mv X16.warmed.alike hh16, hy.2.2.2.2.1.ty⟩)
      obtain ⟨v, rfl, q18, hv⟩ := E18
      have iff := Cod.eqv hx.2.2.2.2.1 hy.2.2.2.2.1 hx.2.2.2.2.2 hy.2.2.2.2.2
      rcases hv with ⟨rfl, he⟩ | ⟨rfl, he⟩
      · have c19 : Steps p.tables e below (s₁.setTop (entryFrame m #[.ref x, .ref y] 3)) (T18.setTop (mkF m 55 #[.val (.ref x), .val (.ref y), .val (.ref y)] [.int 1])) := Steps.trans g18 (by
          refine XS.ifNo X18.here hexec rfl (hb hbytes d47) rfl (i0_eq_f (by decide)) ?_
          refine iconstV X18.here hexec rfl 1 (hb hbytes d50) (by decide) ?_
          refine XS.goto X18.here hexec rfl (pc0 := 51) rfl (hb hbytes d51) (by decide) rfl ?_
          exact Steps.refl _)
        exact ⟨T18, some (.int 1), _, _, _, X18, rfl, rfl, rfl, (fun h => by cases h), ⟨1, rfl, q18.trans hh16, Or.inl ⟨rfl, iff.mp he⟩⟩, fun fs hl => c19.trans (X18.ireturnOut hexec hret rfl (Or.inr (Or.inl rfl)) (hb hbytes d55) hl)⟩
      · have c19 : Steps p.tables e below (s₁.setTop (entryFrame m #[.ref x, .ref y] 3)) (T18.setTop (mkF m 55 #[.val (.ref x), .val (.ref y), .val (.ref y)] [.int 0])) := Steps.trans g18 (by
          refine XS.ifYes X18.here hexec rfl (pc0 := 47) rfl (hb hbytes d47) rfl (i0_eq_t rfl) (by decide) rfl ?_
          refine iconstV X18.here hexec rfl 0 (hb hbytes d54) (by decide) ?_
          exact Steps.refl _)
        exact ⟨T18, some (.int 0), _, _, _, X18, rfl, rfl, rfl, (fun h => by cases h), ⟨0, rfl, q18.trans hh16, Or.inr ⟨rfl, fun q => he (iff.mpr q)⟩⟩, fun fs hl => c19.trans (X18.ireturnOut hexec hret rfl (Or.inr (Or.inl rfl)) (hb hbytes d55) hl)⟩
    · have c13 : Steps p.tables e below (s₁.setTop (entryFrame m #[.ref x, .ref y] 3)) (T11.setTop (mkF m 55 #[.val (.ref x), .val (.ref y), .val (.ref y)] [.int 0])) := c12.trans (by
        refine XS.icmpYes X11.here hexec rfl (pc0 := 33) rfl (hb hbytes d33) rfl (ii_ne_t hcd) (by decide) rfl ?_
        refine iconstV X11.here hexec rfl 0 (hb hbytes d54) (by decide) ?_
        exact Steps.refl _)
      exact ⟨T11, some (.int 0), _, _, _, X11, rfl, rfl, rfl, (fun h => by cases h), ⟨0, rfl, hh11, Or.inr ⟨rfl, Cod.dif hx.2.2.2.2.1 hy.2.2.2.2.1 hcd⟩⟩, fun fs hl => c13.trans (X11.ireturnOut hexec hret rfl (Or.inr (Or.inl rfl)) (hb hbytes d55) hl)⟩
theorem pays {l : Launch} {R : Room} {p : Program} {e : Env} {below : List Frame} {s : State} {sargs : Array Value} {len W : Nat} (x t : Addr) (V : Cell) (cd : Int32) (n : Nat) (f : Nat → Int32) (y t' : Addr) (V' : Cell) (cd' : Int32) (k : Nat) (g : Nat → Int32) (z : Int32) (htab : tab.before sargs s = true) (hfr : 2 ≤ R.frames) (hlo : W + 28 ≤ R.locals) :
    Back l R p e below s sargs yN len W (fun A₁ a₁ => A₁.cells + 0 ≤ R.cells ∧ A₁.slots + 0 ≤ R.slots ∧ P x t V cd n f y t' V' cd' k g z a₁ A₁.U) (fun A₁ _ v₁ B₁ => Says01 (SameT n f k g) v₁ A₁.U B₁.U ∧ B₁.locs = A₁.locs ++ [] ∧ B₁.cells = A₁.cells + 0 ∧ B₁.slots = A₁.slots + 0) :=
  (law l x t V cd n f y t' V' cd' k g z).pays htab hfr (by omega)
end SEq
end StrChars
namespace StrChars.Road
open Jvm Sem ClassFile Op Lib Jvm.Stand Jvm.Free Jvm.Free.XT
open Jvm.Lib.Cold (StaticIs)
/-- the words of String.equals(Object) -/
abbrev wordsEq : List Jvm.Cond := [.code SEq.yN SEq.yB 3 (some .boolean), .initialized ST, .classLink ST 10 ST, .fieldLink ST 38 ST "COMPACT_STRINGS" "Z", .fieldLink ST 15 ST "coder" "B", .fieldLink ST 9 ST "value" "[B", .methodLink ST 541 LEq.yN, .static LEq.yN, .code LEq.yN LEq.yB 3 (some .boolean), .initialized "java/lang/StringLatin1"]
theorem tabEq_of {a : Array Value} {s : State} (h : ∀ w ∈ wordsEq, w.before a s = true) : SEq.tab.before a s = true := by
  have hl : LEq.tab.before a s = true := unparts (wk h (.code LEq.yN LEq.yB 3 (some .boolean))) (wks h (.initialized LEq.yN.cls :: LEq.site))
  have q := consq hl h
  exact unparts (wk q (.code SEq.yN SEq.yB 3 (some .boolean))) (wks q (.initialized SEq.yN.cls :: SEq.site))
theorem movedEq {Z s : State} {a0 args : Array Value} (hZ : Z.Warmed39 s.vm) (hw : ∀ d ∈ wordsEq, d.before a0 Z = true) : ∀ d ∈ wordsEq, d.before args s = true := fun d hd => by
  have t : ∀ d ∈ wordsEq, (d.onTables && d.keepsFace) = true := by decide +kernel
  exact RoadKit.mv hZ (hw d hd) (t d hd)
/-- the road's facts of a String, as the laws ask it -/
theorem txt_of {Z U : State} {a0 : Array Value} {kI : Nat} (wi : (Jvm.Cond.instantiable ST kI).before a0 Z = true) (al : Z.vm.Alike U.vm) {x t : Addr} {kb : ClassId} {cs : List Int32} {cd N2 : Int32} {vs : List Value} (E : RoadKit.Exa Z U.heap x ST) (V : RoadKit.Fld Z U.heap x ST "value" "[B" (.ref t)) (C : RoadKit.Fld Z U.heap x ST "coder" "B" (.int cd)) (K : RoadKit.Arv Z U.heap t kb .byte N2 vs (.int 0)) (hc : CodA cs cd N2 vs) (hb : ∀ c ∈ cs, ¬ c < 0 ∧ ¬ (65535 : Int32) < c) (l2 : cs.length ≤ 4000) :
    ∃ A, Txt x t A cd cs.length (fun j => cs.getD j 0) U := by
  obtain ⟨A, K1, K2, K3, K4, K5, K6⟩ := K
  have hcod := hc.cod (by omega) K3 K5
  obtain ⟨D, fV, fC, hB, F1, F2, g1, g2, -, -⟩ := strObj wi al E V C
  exact ⟨A, ⟨_, hB.2.2.1, D, hB.1, rfl, by cases q : D.vm <;> first | rfl | exact absurd q (hB.2.1.2 _)⟩, Has.of hB F1 g1, Has.of hB F2 g2, ⟨K1.1, State.isArrayOf_alike al K1.2.1, K1.2.2, by rcases hcod with ⟨-, q, -⟩ | ⟨-, q, -⟩ <;> omega⟩, hcod, fun j hj => by
    have e : cs.getD j 0 = cs[j] := by simp [List.getD_eq_getElem?_getD, hj]
    show ¬ cs.getD j 0 < 0 ∧ ¬ 65535 < cs.getD j 0
    rw [e]; exact hb _ (List.getElem_mem _)⟩
theorem same_list (cs ds : List Int32) : SameT cs.length (fun j => cs.getD j 0) ds.length (fun j => ds.getD j 0) ↔ cs = ds := by
  constructor
  · rintro ⟨e, q⟩
    refine List.ext_getElem e fun j h1 h2 => ?_
    have := q j h1
    simpa [List.getD_eq_getElem?_getD, h1, h2] using this
  · rintro rfl
    exact ⟨rfl, fun _ _ => rfl⟩
/-- **equals(Object) OF TWO SUCH STRINGS**: 1 just where the chars are the same -/
theorem eqW {p : Program} {l : Launch} {e : Env} {R : Room} {s : State} {args : Array Value} {below : List Frame} {len W : Nat} {Z : State} {a0 : Array Value} {h : Heap} (hZ : Z.Warmed39 s.vm) (hw : ∀ d ∈ wordsEq, d.before a0 Z = true) {kI : Nat} (wi : (Jvm.Cond.instantiable ST kI).before a0 Z = true)
    {x t : Addr} {kb : ClassId} {cs : List Int32} {cd N2 : Int32} {vs : List Value} (E : RoadKit.Exa Z h x ST) (V : RoadKit.Fld Z h x ST "value" "[B" (.ref t)) (C : RoadKit.Fld Z h x ST "coder" "B" (.int cd)) (K : RoadKit.Arv Z h t kb .byte N2 vs (.int 0)) (hc : CodA cs cd N2 vs) (hb : ∀ c ∈ cs, ¬ c < 0 ∧ ¬ (65535 : Int32) < c) (l2 : cs.length ≤ 4000)
    {y t' : Addr} {kb' : ClassId} {ds : List Int32} {cd' N2' : Int32} {vs' : List Value} (E' : RoadKit.Exa Z h y ST) (V' : RoadKit.Fld Z h y ST "value" "[B" (.ref t')) (C' : RoadKit.Fld Z h y ST "coder" "B" (.int cd')) (K' : RoadKit.Arv Z h t' kb' .byte N2' vs' (.int 0)) (hc' : CodA ds cd' N2' vs') (hb' : ∀ c ∈ ds, ¬ c < 0 ∧ ¬ (65535 : Int32) < c) (l2' : ds.length ≤ 4000)
    {z : Int32} (S : RoadKit.Sta Z h ST "COMPACT_STRINGS" "Z" (.int z)) (hz : ¬ z = 0) (hfr : 2 ≤ R.frames) (hlo : W + 28 ≤ R.locals) :
    Back l R p e below s args (⟨"java/lang/String", "equals", "(Ljava/lang/Object;)Z"⟩ : MethodName) len W (fun P a => a = #[.ref x, .ref y] ∧ P.U.heap = h ∧ P.cells + 0 ≤ R.cells ∧ P.slots + 0 ≤ R.slots)
      (fun P _ v B => ∃ L, (((v = some (.int 1) ∧ cs = ds) ∨ (v = some (.int 0) ∧ ¬ cs = ds)) ∧ L = [] ∧ B.U.heap = h) ∧ B.locs = P.locs ++ L ∧ B.cells = P.cells + 0 ∧ B.slots = P.slots + 0) := by
  intro m meth c P g ig mk a X hg hsize hdg hW hn hp'
  obtain ⟨rfl, rfl, r1, r2⟩ := hp'
  have al : Z.vm.Alike P.U.vm := hZ.alike.trans X.warmed.alike
  obtain ⟨A, hx⟩ := txt_of wi al E V C K hc hb l2
  obtain ⟨A', hy⟩ := txt_of wi al E' V' C' K' hc' hb' l2'
  obtain ⟨v, B, X', ⟨⟨w, hv, hh, hq⟩, hl, hk, hs⟩, st⟩ := SEq.pays x t A cd cs.length (fun j => cs.getD j 0) y t' A' cd' ds.length (fun j => ds.getD j 0) z (tabEq_of (movedEq hZ hw)) hfr hlo m meth c P g ig mk _ X hg hsize hdg hW hn ⟨r1, r2, rfl, hx, hy, sta_is al S, hz⟩
  refine ⟨v, B, X', ⟨[], ⟨?_, rfl, hh⟩, hl, hk, hs⟩, st⟩
  rcases hq with ⟨rfl, q⟩ | ⟨rfl, q⟩
  · exact Or.inl ⟨hv, (same_list cs ds).mp q⟩
  · exact Or.inr ⟨hv, fun e => q ((same_list cs ds).mpr e)⟩
end StrChars.Road
end Jvm.Pilot.@@N@@

namespace Jvm.Pilot.@@N@@
open Jvm Jvm.ClassFile Sem Op Lib Jvm.Free Jvm.Stand Jvm.LawKit Jvm.RoadKit Bundle Jvm.Pilot.@@N@@.Jvm.D
abbrev vi (n : Int32) : Slot := .val (.int n)
abbrev vj (n : Int64) : Slot := .val (.long n)
abbrev vr (a : Addr) : Slot := .val (.ref a)
theorem cat_i (n : Int32) : (Value.int n).category = 1 := rfl
theorem cat_j (n : Int64) : (Value.long n).category = 2 := rfl
theorem cat_r (a : Addr) : (Value.ref a).category = 1 := rfl
theorem cat_n : Value.null.category = 1 := rfl
theorem wq {Z : State} {a0 : Array Value} (hw : ∀ d ∈ tables_1, d.before a0 Z = true) (i : Nat) {d : Cond} (h : tables_1[i]? = some d) : d.before a0 Z = true := hw d (List.mem_of_getElem? h)
/-- what is said of the start -/
def Wd (Z : State) (a0 : Array Value) : Prop := (∀ d ∈ tables_1, d.before a0 Z = true) ∧ (∃ z : Int32, Sta Z Z.heap "java/lang/String" "COMPACT_STRINGS" "Z" (.int z) ∧ ¬ z = 0) ∧ (∃ w : Value, Sta Z Z.heap "jdk/internal/util/Preconditions" "SIOOBE_FORMATTER" "Ljava/util/function/BiFunction;" w ∧ w.isRef = true)
def EL : List (String × Nat) := [("java/lang/String", 7), ("com/example/nudge_over_socket/nudgeoversocket/protocol/ChannelNames", 43), ("java/lang/StringLatin1", 151)]
theorem el_of {Z : State} {a0 : Array Value} (hw : ∀ d ∈ tables_1, d.before a0 Z = true) : EW Z a0 EL := (EW.cons (wq hw 21 rfl) (by decide) (EW.cons (wq hw 33 rfl) (by decide) (EW.cons (wq hw 97 rfl) (by decide) EW.nil)))
theorem words_sa : ∀ d ∈ Bundle.stringAtoms, d ∈ tables_1 := by decide +kernel
theorem words_new : ∀ d ∈ StrChars.Road.words, d ∈ tables_1 := by decide +kernel
theorem words_eq : ∀ d ∈ StrChars.Road.wordsEq, d ∈ tables_1 := by decide +kernel
/-- the bytes of chars -/
def bys (cs : List Int32) : List Value := cs.map (fun c => .int c.toInt8.toInt32)
theorem bys_len {cs : List Int32} : (bys cs).length = cs.length := by simp [bys]
theorem cod_of {cs : List Int32} {n : Nat} (hn : cs.length = n) (hb : ∀ c ∈ cs, ¬ c < 0 ∧ ¬ (255 : Int32) < c) : StrChars.Road.CodA cs 0 (Int32.ofNat n) (bys cs) := Or.inl ⟨rfl, by rw [hn], rfl, fun c hc => (hb c hc).2⟩
theorem cod_up {cs : List Int32} (hb : ∀ c ∈ cs, ¬ c < 0 ∧ ¬ (255 : Int32) < c) : ∀ c ∈ cs, ¬ c < 0 ∧ ¬ (65535 : Int32) < c := fun c hc => ⟨(hb c hc).1, fun q => (hb c hc).2 (Int32.lt_trans (by decide) q)⟩
theorem b8_eq {c k : Int32} (h : ¬ c < 0 ∧ ¬ (255 : Int32) < c) (hk : 0 ≤ k.toInt ∧ k.toInt < 128) : c.toInt8.toInt32 = k ↔ c = k := by
  obtain ⟨h1, h2⟩ := h
  rw [Int32.lt_iff_toInt_lt] at h1 h2
  have e0 : (0 : Int32).toInt = 0 := rfl
  have e1 : (255 : Int32).toInt = 255 := rfl
  have q := c_i2b c
  rw [← Int32.toInt_inj, ← Int32.toInt_inj]
  omega
theorem ge5 {z : Int32} (h : ¬ z < 5) : ¬ z - 5 < 0 := by
  rw [Int32.lt_iff_toInt_lt] at h ⊢
  have h1 := c_isub z 5
  have e0 : (0 : Int32).toInt = 0 := rfl
  have e1 : (5 : Int32).toInt = 5 := rfl
  have := rng32 z
  have := rng32 (z - 5)
  omega
theorem lt5 {z : Int32} (h : z < 5) (h0 : ¬ z < 0) : z - 5 < 0 := by
  rw [Int32.lt_iff_toInt_lt] at h h0 ⊢
  have h1 := c_isub z 5
  have e0 : (0 : Int32).toInt = 0 := rfl
  have e1 : (5 : Int32).toInt = 5 := rfl
  have := rng32 z
  have := rng32 (z - 5)
  omega
theorem in5 {z j : Int32} (h : ¬ z < 5) (hj : ¬ j < 0 ∧ j < 5) : ¬ j < 0 ∧ j < z := by
  refine ⟨hj.1, ?_⟩
  have h2 := hj.2
  rw [Int32.lt_iff_toInt_lt] at h h2 ⊢
  omega
theorem mod10 (x : Int32) : ¬ (x &&& 15) % 10 < 0 ∧ ¬ (9 : Int32) < (x &&& 15) % 10 := by
  have q := c_and x 15 (by decide)
  have e1 : (15 : Int32).toInt = 15 := rfl
  obtain ⟨k, hk, e⟩ := of_rng (x := x &&& 15) (n := 16) (by omega) (by omega) (by decide)
  rw [e]
  exact (by decide : ∀ k : Fin 16, ¬ Int32.ofNat k.1 % 10 < 0 ∧ ¬ (9 : Int32) < Int32.ofNat k.1 % 10) ⟨k, hk⟩
theorem mod5 (x : Int32) : ¬ (x &&& 7) % 5 < 0 ∧ ¬ (4 : Int32) < (x &&& 7) % 5 := by
  have q := c_and x 7 (by decide)
  have e1 : (7 : Int32).toInt = 7 := rfl
  obtain ⟨k, hk, e⟩ := of_rng (x := x &&& 7) (n := 8) (by omega) (by omega) (by decide)
  rw [e]
  exact (by decide : ∀ k : Fin 8, ¬ Int32.ofNat k.1 % 5 < 0 ∧ ¬ (4 : Int32) < Int32.ofNat k.1 % 5) ⟨k, hk⟩
theorem up9 {x : Int32} (h : ¬ x < 0 ∧ ¬ (4 : Int32) < x) : ¬ x < 0 ∧ ¬ (9 : Int32) < x := ⟨h.1, fun q => h.2 (Int32.lt_trans (by decide) q)⟩
theorem is0 {x : Int32} (h : ¬ x < 0) (h2 : ¬ (0 : Int32) < x) : x = Int32.ofNat 0 := by
  rw [Int32.lt_iff_toInt_lt] at h h2
  have e0 : (0 : Int32).toInt = 0 := rfl
  apply Int32.toInt_inj.mp
  rw [show (Int32.ofNat 0).toInt = 0 from rfl]; omega
theorem is9 {x : Int32} (h : ¬ x < 0 ∧ ¬ (9 : Int32) < x) (h0 : (0 : Int32) < x) (h1 : ¬ x = 1) (h2 : ¬ x = 2) (h3 : ¬ x = 3) (h4 : ¬ x = 4) (h5 : ¬ x = 5) (h6 : ¬ x = 6) (h7 : ¬ x = 7) (h8 : ¬ x = 8) : x = Int32.ofNat 9 := by
  obtain ⟨g1, g2⟩ := h
  rw [Int32.lt_iff_toInt_lt] at g1 g2 h0
  rw [← Int32.toInt_inj] at h1 h2 h3 h4 h5 h6 h7 h8
  have e0 : (0 : Int32).toInt = 0 := rfl
  have e1 : (1 : Int32).toInt = 1 := rfl
  have e2 : (2 : Int32).toInt = 2 := rfl
  have e3 : (3 : Int32).toInt = 3 := rfl
  have e4 : (4 : Int32).toInt = 4 := rfl
  have e5 : (5 : Int32).toInt = 5 := rfl
  have e6 : (6 : Int32).toInt = 6 := rfl
  have e7 : (7 : Int32).toInt = 7 := rfl
  have e8 : (8 : Int32).toInt = 8 := rfl
  have e9 : (9 : Int32).toInt = 9 := rfl
  apply Int32.toInt_inj.mp
  rw [show (Int32.ofNat 9).toInt = 9 from rfl]; omega
theorem add5 (k : Nat) : (5 : Int32) + Int32.ofNat k = Int32.ofNat (k + 5) := by rw [Nat.add_comm]; exact ofn_add 5 k
theorem sub5 (k : Nat) : Int32.ofNat (k + 5) - (5 : Int32) = Int32.ofNat k := by rw [← ofn_add k 5]; exact Int32.add_sub_cancel _ _
theorem nlt5 {k : Nat} (h : k ≤ 4) : ¬ Int32.ofNat (k + 5) < 5 := by
  rw [Int32.lt_iff_toInt_lt, ofn_toInt (by omega)]
  have e1 : (5 : Int32).toInt = 5 := rfl
  omega
theorem ofn0 {k : Nat} (h : k ≤ 4) (q : Int32.ofNat k = 0) : k = 0 := by
  have := congrArg Int32.toInt q
  rw [ofn_toInt (by omega)] at this
  have e0 : (0 : Int32).toInt = 0 := rfl
  omega
theorem cr5 {y0 y1 y2 y3 y4 : Value} {rest : List Value} {k : Nat} {d d' : Value} (hk : rest.length = k) (h31 : k < 2 ^ 31) :
    (List.replicate k d').take (0 : Int32).toNatClampNeg ++ (List.range (Int32.ofNat k).toNatClampNeg).map (fun i => (y0 :: y1 :: y2 :: y3 :: y4 :: rest).getD ((5 : Int32).toNatClampNeg + i) d) ++ (List.replicate k d').drop ((0 : Int32).toNatClampNeg + (Int32.ofNat k).toNatClampNeg) = rest := by
  rw [ofn_clamp h31]
  have e : (0 : Int32).toNatClampNeg = 0 := rfl
  have e5 : (5 : Int32).toNatClampNeg = 5 := rfl
  simp only [e, e5, Nat.zero_add, List.take_zero, List.nil_append]
  rw [List.drop_eq_nil_of_le (by simp), List.append_nil]
  have : (fun i => (y0 :: y1 :: y2 :: y3 :: y4 :: rest).getD (5 + i) d) = fun i => rest.getD i d := by
    funext i
    rw [show 5 + i = i + 1 + 1 + 1 + 1 + 1 by omega]
    simp [List.getD_eq_getElem?_getD]
  rw [this]
  exact range_getD hk d
theorem five_of {cs : List Int32} {n : Nat} (h : cs.length = n) (h5 : 5 ≤ n) : ∃ c0 c1 c2 c3 c4 cr, cs = c0 :: c1 :: c2 :: c3 :: c4 :: cr ∧ cr.length + 5 = n := by
  match cs, h with
  | c0 :: c1 :: c2 :: c3 :: c4 :: cr, h => exact ⟨c0, c1, c2, c3, c4, cr, rfl, by simpa using h⟩
  | [], h => simp at h; omega
  | [_], h => simp at h; omega
  | [_, _], h => simp at h; omega
  | [_, _, _], h => simp at h; omega
  | [_, _, _, _], h => simp at h; omega
def PreB (y0 y1 y2 y3 y4 : Int32) : Prop := y0 = 117 ∧ y1 = 115 ∧ y2 = 101 ∧ y3 = 114 ∧ y4 = 58
def Pre (cs : List Int32) : Prop := cs.take 5 = [117, 115, 101, 114, 58]
theorem pre_of {c0 c1 c2 c3 c4 : Int32} {cr : List Int32} (h : ∀ c ∈ c0 :: c1 :: c2 :: c3 :: c4 :: cr, ¬ c < 0 ∧ ¬ (255 : Int32) < c) : PreB c0.toInt8.toInt32 c1.toInt8.toInt32 c2.toInt8.toInt32 c3.toInt8.toInt32 c4.toInt8.toInt32 ↔ Pre (c0 :: c1 :: c2 :: c3 :: c4 :: cr) := by
  unfold PreB Pre
  rw [b8_eq (h c0 (by simp)) (by decide), b8_eq (h c1 (by simp)) (by decide), b8_eq (h c2 (by simp)) (by decide), b8_eq (h c3 (by simp)) (by decide), b8_eq (h c4 (by simp)) (by decide)]
  simp
theorem pre_short {cs : List Int32} {n : Nat} (h : cs.length = n) (h5 : n < 5) : ¬ Pre cs := fun q => by
  have := congrArg List.length q
  simp at this; omega
-- com/example/nudge_over_socket/nudgeoversocket/protocol/ChannelNamesIsOpenToPinLaw.ch:(II)C
def Q_ch (Z : State) (x : Int32) (sh : Int32) (h0 : Heap) (v : Option Value) (h : Heap) (L : List Loc) : Prop := ∃ y : Int32, v = some (.int y) ∧ (¬ y < 0 ∧ ¬ (255 : Int32) < y) ∧ Fr Z.heap.size L ∧ h = h0
theorem ef_ch (m : MethodId) (x : Int32) (sh : Int32) : entryFrame m #[(.int x), (.int sh)] 2 = mkF m 0 #[vi x, vi sh] [] := by first | (simp [entryFrame, mkF, argsToLocals, Value.category, vi, vj, vr]; done) | rfl
theorem pn_0 : plainName "com/example/nudge_over_socket/nudgeoversocket/protocol/ChannelNamesIsOpenToPinLaw" = true := by first | (simp [plainName, overriddenIn]; done) | decide +kernel
theorem d_3_0 : decode method_3_code 0 = .ok (.iload_n 0, 1) := by decide +kernel
theorem d_3_1 : decode method_3_code 1 = .ok (.iload_n 1, 1) := by decide +kernel
theorem d_3_2 : decode method_3_code 2 = .ok (.iushr, 1) := by decide +kernel
theorem d_3_3 : decode method_3_code 3 = .ok (.sipush 255, 3) := by decide +kernel
theorem d_3_6 : decode method_3_code 6 = .ok (.iand, 1) := by decide +kernel
theorem d_3_7 : decode method_3_code 7 = .ok (.i2c, 1) := by decide +kernel
theorem d_3_8 : decode method_3_code 8 = .ok (.ireturn, 1) := by decide +kernel
set_option maxRecDepth 65536 in
set_option maxHeartbeats 40000000 in
theorem rm_ch (l : Launch) {Z : State} {a0 : Array Value} (hD : Wd Z a0) (x : Int32) (sh : Int32) {h0 : Heap} (O0 : Ext Z.heap h0) :
    Con l Z (⟨"com/example/nudge_over_socket/nudgeoversocket/protocol/ChannelNamesIsOpenToPinLaw", "ch", "(II)C"⟩ : MethodName) method_3_code 2 (some .char) [] ({ frames := 0, cells := 0, slots := 0, locals := 0 } : Room) #[(.int x), (.int sh)] h0 (Q_ch Z x sh h0) := by
  refine Con.walk (plainFor_of_name pn_0) ?_
  intro p e s m below meth c T0 X0 hx hZ hby hml hown hnm hret hlk e0
  obtain ⟨hw, ⟨cz, S_CS, hcz⟩, ⟨sf, S_SF, hsf⟩⟩ := id hD
  have N0 := Fr.nil Z.heap.size
  refine OEnds.cast (ef_ch m x sh) ?_
  refine OEnds.st (S' := T0.setTop (mkF m 8 #[vi x, vi sh] [(.int ((((x.toUInt32 >>> (sh &&& 31).toUInt32).toInt32) &&& (255 : Int32)).toUInt32.toUInt16.toUInt32.toInt32))])) (fun _ k => ?_) ?_
  · refine XS.iloadN X0.here hx rfl (hb hby d_3_0) rfl ?_
    refine XS.iloadN X0.here hx rfl (hb hby d_3_1) rfl ?_
    refine XS.iushr X0.here hx rfl (hb hby d_3_2) rfl ?_
    refine XS.sipush X0.here hx rfl (hb hby d_3_3) ?_
    show Steps p.tables e below (T0.setTop (mkF m 6 #[vi x, vi sh] [(.int 255), (.int ((x.toUInt32 >>> (sh &&& 31).toUInt32).toInt32))])) _
    refine XS.iand X0.here hx rfl (hb hby d_3_6) rfl ?_
    refine XS.i2c X0.here hx rfl (hb hby d_3_7) rfl ?_
    exact k
  exact OEnds.ret X0 hx hret hlk (Jvm.Free.XT.narrow_c _) (Or.inl ⟨rfl, by simp, _, rfl⟩) (hb hby d_3_8) (by decide) (by decide) (by rw [e0]; exact ⟨_, rfl, i2c255, N0, rfl⟩)
-- java/lang/String.coder:()B
def Q_coder (Z : State) (a : Addr) (h0 : Heap) (v : Option Value) (h : Heap) (L : List Loc) : Prop := v = some (.int 0) ∧ Fr Z.heap.size L ∧ h = h0
theorem ef_coder (m : MethodId) (a : Addr) : entryFrame m #[(.ref a)] 1 = mkF m 0 #[vr a] [] := by first | (simp [entryFrame, mkF, argsToLocals, Value.category, vi, vj, vr]; done) | rfl
theorem pn_1 : plainName "java/lang/String" = true := by first | (simp [plainName, overriddenIn]; done) | decide +kernel
theorem d_jdk_42_152_0 : decode jdk_42_method_152_code 0 = .ok (.getstatic 38, 3) := by decide +kernel
theorem d_jdk_42_152_3 : decode jdk_42_method_152_code 3 = .ok (.ifCond .eq 10, 3) := by decide +kernel
theorem d_jdk_42_152_6 : decode jdk_42_method_152_code 6 = .ok (.aload_n 0, 1) := by decide +kernel
theorem d_jdk_42_152_7 : decode jdk_42_method_152_code 7 = .ok (.getfield 15, 3) := by decide +kernel
theorem d_jdk_42_152_10 : decode jdk_42_method_152_code 10 = .ok (.goto 4, 3) := by decide +kernel
theorem d_jdk_42_152_14 : decode jdk_42_method_152_code 14 = .ok (.ireturn, 1) := by decide +kernel
set_option maxRecDepth 65536 in
set_option maxHeartbeats 40000000 in
theorem rm_coder (l : Launch) {Z : State} {a0 : Array Value} (hD : Wd Z a0) (a : Addr) {h0 : Heap} (O0 : Ext Z.heap h0) (F_coder_a : Fld Z h0 a "java/lang/String" "coder" "B" (.int 0)) :
    Con l Z (⟨"java/lang/String", "coder", "()B"⟩ : MethodName) jdk_42_method_152_code 1 (some .byte) [] ({ frames := 0, cells := 0, slots := 0, locals := 0 } : Room) #[(.ref a)] h0 (Q_coder Z a h0) := by
  refine Con.walk (plainFor_of_name pn_1) ?_
  intro p e s m below meth c T0 X0 hx hZ hby hml hown hnm hret hlk e0
  obtain ⟨hw, ⟨cz, S_CS, hcz⟩, ⟨sf, S_SF, hsf⟩⟩ := id hD
  have N0 := Fr.nil Z.heap.size
  refine OEnds.cast (ef_coder m a) ?_
  obtain ⟨T1, X1, e1, st1⟩ := getS2 X0 hx hZ hown (host := "") (Or.inl (wq hw 54 rfl)) Via.refl e0 (S_CS.ext O0) (g := (mkF m 0 #[vr a] [])) rfl (hb hby d_jdk_42_152_0)
  refine OEnds.st st1 ?_
  refine OEnds.st (S' := T1.setTop (mkF m 7 #[vr a] [(.ref a)])) (fun _ k => ?_) ?_
  · refine XS.ifNo X1.here hx rfl (hb hby d_jdk_42_152_3) rfl ((if0 _ _).trans (feq hcz).1) ?_
    refine XS.aloadN X1.here hx rfl (hb hby d_jdk_42_152_6) rfl rfl ?_
    exact k
  obtain ⟨T2, X2, e2, st2⟩ := getF X1 hx hZ hown (host := "") (Or.inl (wq hw 28 rfl)) Via.refl e1 F_coder_a (g := (mkF m 7 #[vr a] [(.ref a)])) rfl rfl (hb hby d_jdk_42_152_7)
  refine OEnds.st st2 ?_
  refine OEnds.st (S' := T2.setTop (mkF m 14 #[vr a] [(.int 0)])) (fun _ k => ?_) ?_
  · refine XS.goto X2.here hx rfl (pc0 := 10) (pc' := 14) rfl (hb hby d_jdk_42_152_10) (by decide) (by decide) ?_
    exact k
  exact OEnds.ret X2 hx hret hlk (by decide) (Or.inl ⟨rfl, by simp, _, rfl⟩) (hb hby d_jdk_42_152_14) (by decide) (by decide) (by rw [e2]; exact ⟨rfl, N0, rfl⟩)
-- java/lang/String.length:()I
def Q_strLen (Z : State) (a : Addr) (t : Addr) (k : ClassId) (z : Int32) (us : List Value) (h0 : Heap) (v : Option Value) (h : Heap) (L : List Loc) : Prop := v = some (.int z) ∧ Fr Z.heap.size L ∧ h = h0
theorem ef_strLen (m : MethodId) (a : Addr) : entryFrame m #[(.ref a)] 1 = mkF m 0 #[vr a] [] := by first | (simp [entryFrame, mkF, argsToLocals, Value.category, vi, vj, vr]; done) | rfl
theorem d_jdk_42_54_0 : decode jdk_42_method_54_code 0 = .ok (.aload_n 0, 1) := by decide +kernel
theorem d_jdk_42_54_1 : decode jdk_42_method_54_code 1 = .ok (.getfield 9, 3) := by decide +kernel
theorem d_jdk_42_54_4 : decode jdk_42_method_54_code 4 = .ok (.arraylength, 1) := by decide +kernel
theorem d_jdk_42_54_5 : decode jdk_42_method_54_code 5 = .ok (.aload_n 0, 1) := by decide +kernel
theorem d_jdk_42_54_6 : decode jdk_42_method_54_code 6 = .ok (.invokevirtual 335, 3) := by decide +kernel
theorem pd_0 : parseMethodDescriptor "()B" = some ⟨[], some .byte⟩ := by decide +kernel
theorem d_jdk_42_54_9 : decode jdk_42_method_54_code 9 = .ok (.ishr, 1) := by decide +kernel
theorem d_jdk_42_54_10 : decode jdk_42_method_54_code 10 = .ok (.ireturn, 1) := by decide +kernel
set_option maxRecDepth 65536 in
set_option maxHeartbeats 40000000 in
theorem rm_strLen (l : Launch) {Z : State} {a0 : Array Value} (hD : Wd Z a0) (a : Addr) (t : Addr) (k : ClassId) (z : Int32) (us : List Value) {h0 : Heap} (O0 : Ext Z.heap h0) (E_a : Exa Z h0 a "java/lang/String") (F_coder_a : Fld Z h0 a "java/lang/String" "coder" "B" (.int 0)) (F_value_a : Fld Z h0 a "java/lang/String" "value" "[B" (.ref t)) (V_t : Arv Z h0 t k .byte z us (.int 0)) :
    Con l Z (⟨"java/lang/String", "length", "()I"⟩ : MethodName) jdk_42_method_54_code 1 (some .int) [] ({ frames := 1, cells := 0, slots := 0, locals := 13 } : Room) #[(.ref a)] h0 (Q_strLen Z a t k z us h0) := by
  refine Con.walk (plainFor_of_name pn_1) ?_
  intro p e s m below meth c T0 X0 hx hZ hby hml hown hnm hret hlk e0
  obtain ⟨hw, ⟨cz, S_CS, hcz⟩, ⟨sf, S_SF, hsf⟩⟩ := id hD
  have N0 := Fr.nil Z.heap.size
  refine OEnds.cast (ef_strLen m a) ?_
  refine OEnds.st (S' := T0.setTop (mkF m 1 #[vr a] [(.ref a)])) (fun _ k => ?_) ?_
  · refine XS.aloadN X0.here hx rfl (hb hby d_jdk_42_54_0) rfl rfl ?_
    exact k
  obtain ⟨T1, X1, e1, st1⟩ := getF X0 hx hZ hown (host := "") (Or.inl (wq hw 27 rfl)) Via.refl e0 F_value_a (g := (mkF m 1 #[vr a] [(.ref a)])) rfl rfl (hb hby d_jdk_42_54_1)
  refine OEnds.st st1 ?_
  obtain ⟨cl_t_2, Ar_t_2, q_t_2, S_t_2, N_t_2, H_t_2, G_t_2⟩ := id V_t
  refine OEnds.st (S' := T1.setTop (mkF m 5 #[vr a] [(.int z)])) (fun tg kq9 => X1.arraylength hx (by rw [e1]; exact Ar_t_2.1) (State.isArrayOf_alike hZ.alike Ar_t_2.2.1) (g := (mkF m 4 #[vr a] [(.ref t)])) rfl rfl (hb hby d_jdk_42_54_4) tg (by rw [len_of S_t_2 N_t_2]; exact kq9)) ?_
  refine OEnds.st (S' := T1.setTop (mkF m 6 #[vr a] [(.ref a), (.int z)])) (fun _ k => ?_) ?_
  · refine XS.aloadN X1.here hx rfl (hb hby d_jdk_42_54_5) rfl rfl ?_
    exact k
  obtain ⟨_, T3, h3, L3, X3, e3, hQ3, st3⟩ := virtC X1 hx hZ (y := (⟨"java/lang/String", "coder", "()B"⟩ : MethodName)) (z := (⟨"java/lang/String", "coder", "()B"⟩ : MethodName)) hown (wq hw 49 rfl) (wq hw 50 rfl) (nf_sel (args := #[]) (mvT hZ (wq hw 37 rfl)) rfl) (wq hw 52 rfl) (wq hw 51 rfl) (by decide) (kc := 0) (ks := 0) (Con.sb (W := 1) (rm_coder l hD a O0 F_coder_a) hZ (wq hw 53 rfl) (wq hw 10 rfl) (by decide) (by decide)) e1 E_a (g := (mkF m 6 #[vr a] [(.ref a), (.int z)])) rfl (by rw [hml]; rfl) (argsL := []) (rest := [(.int z)]) (lenOf pd_0 rfl) rfl (by show 2 * 0 + _ ≤ _; exact Nat.le_of_eq rfl) (hb hby d_jdk_42_54_6) (by decide) (by decide)
  obtain ⟨rfl, Nq3, Hq3⟩ := hQ3
  refine OEnds.st st3 ?_
  replace N0 := Fr.app N0 Nq3
  replace e3 := e3.trans Hq3
  refine OEnds.st (S' := T3.setTop (mkF m 10 #[vr a] [(.int z)])) (fun _ k => ?_) ?_
  · refine XS.ishr X3.here hx rfl (hb hby d_jdk_42_54_9) rfl ?_
    rw [shr0 z]
    exact k
  exact OEnds.ret X3 hx hret hlk rfl (Or.inl ⟨rfl, by simp, _, rfl⟩) (hb hby d_jdk_42_54_10) (by decide) (by decide) (by rw [e3]; exact ⟨rfl, N0, rfl⟩)
-- java/lang/String.<init>:([BB)V
def Q_strInitBB (Z : State) (a : Addr) (t : Addr) (h0 : Heap) (v : Option Value) (h : Heap) (L : List Loc) : Prop := v = none ∧ Fr Z.heap.size L ∧ Keep h0 h [a] ∧ Exa Z h a "java/lang/String" ∧ Fld Z h a "java/lang/String" "value" "[B" (.ref t) ∧ Fld Z h a "java/lang/String" "coder" "B" (.int 0)
theorem ef_strInitBB (m : MethodId) (a : Addr) (t : Addr) : entryFrame m #[(.ref a), (.ref t), (.int 0)] 3 = mkF m 0 #[vr a, vr t, vi 0] [] := by first | (simp [entryFrame, mkF, argsToLocals, Value.category, vi, vj, vr]; done) | rfl
theorem d_jdk_42_151_0 : decode jdk_42_method_151_code 0 = .ok (.aload_n 0, 1) := by decide +kernel
theorem d_jdk_42_151_1 : decode jdk_42_method_151_code 1 = .ok (.invokespecial 1, 3) := by decide +kernel
theorem d_jdk_42_151_4 : decode jdk_42_method_151_code 4 = .ok (.aload_n 0, 1) := by decide +kernel
theorem d_jdk_42_151_5 : decode jdk_42_method_151_code 5 = .ok (.aload_n 1, 1) := by decide +kernel
theorem d_jdk_42_151_6 : decode jdk_42_method_151_code 6 = .ok (.putfield 9, 3) := by decide +kernel
theorem d_jdk_42_151_9 : decode jdk_42_method_151_code 9 = .ok (.aload_n 0, 1) := by decide +kernel
theorem d_jdk_42_151_10 : decode jdk_42_method_151_code 10 = .ok (.iload_n 2, 1) := by decide +kernel
theorem d_jdk_42_151_11 : decode jdk_42_method_151_code 11 = .ok (.putfield 15, 3) := by decide +kernel
theorem d_jdk_42_151_14 : decode jdk_42_method_151_code 14 = .ok (.return_, 1) := by decide +kernel
set_option maxRecDepth 65536 in
set_option maxHeartbeats 40000000 in
theorem rm_strInitBB (l : Launch) {Z : State} {a0 : Array Value} (hD : Wd Z a0) (a : Addr) (t : Addr) {h0 : Heap} (O0 : Ext Z.heap h0) (E_a : Exa Z h0 a "java/lang/String") (F_value_a : Fld Z h0 a "java/lang/String" "value" "[B" .null) (F_coder_a : Fld Z h0 a "java/lang/String" "coder" "B" (.int 0)) (ge_a : Z.heap.size ≤ a) :
    Con l Z (⟨"java/lang/String", "<init>", "([BB)V"⟩ : MethodName) jdk_42_method_151_code 3 none [] ({ frames := 1, cells := 0, slots := 0, locals := 12 } : Room) #[(.ref a), (.ref t), (.int 0)] h0 (Q_strInitBB Z a t h0) := by
  refine Con.walk (plainFor_of_name pn_1) ?_
  intro p e s m below meth c T0 X0 hx hZ hby hml hown hnm hret hlk e0
  obtain ⟨hw, ⟨cz, S_CS, hcz⟩, ⟨sf, S_SF, hsf⟩⟩ := id hD
  have N0 := Fr.nil Z.heap.size
  have K0 : Keep h0 h0 [a] := Keep.refl _ _
  refine OEnds.cast (ef_strInitBB m a t) ?_
  refine OEnds.st (S' := T0.setTop (mkF m 1 #[vr a, vr t, vi 0] [(.ref a)])) (fun _ k => ?_) ?_
  · refine XS.aloadN X0.here hx rfl (hb hby d_jdk_42_151_0) rfl rfl ?_
    exact k
  obtain ⟨T1, X1, e1, st1⟩ := initO X0 hx hZ hown (wq hw 18 rfl) (wq hw 19 rfl) (wq hw 20 rfl) e0 (g := (mkF m 1 #[vr a, vr t, vi 0] [(.ref a)])) rfl (by rw [hml]; rfl) rfl (hb hby d_jdk_42_151_1) (by decide) (W := 0) (by show 2 * 0 + _ ≤ _; exact Nat.le_of_eq rfl) (by decide)
  refine OEnds.st st1 ?_
  refine OEnds.st (S' := T1.setTop (mkF m 6 #[vr a, vr t, vi 0] [(.ref t), (.ref a)])) (fun _ k => ?_) ?_
  · refine XS.aloadN X1.here hx rfl (hb hby d_jdk_42_151_4) rfl rfl ?_
    refine XS.aloadN X1.here hx rfl (hb hby d_jdk_42_151_5) rfl rfl ?_
    exact k
  obtain ⟨T2, h2, X2, e2, W2, st2⟩ := putF X1 hx hZ hown (host := "") (Or.inl (wq hw 27 rfl)) Via.refl e1 F_value_a E_a (Or.inr ⟨(wq hw 23 rfl), rfl, hnm⟩) (wq hw 9 rfl) (ty := (.array .byte)) (by decide) rfl rfl (g := (mkF m 6 #[vr a, vr t, vi 0] [(.ref t), (.ref a)])) rfl rfl (hb hby d_jdk_42_151_6)
  refine OEnds.st st2 ?_
  replace E_a := E_a.wr W2
  replace F_value_a := F_value_a.same W2
  replace F_coder_a := F_coder_a.other W2 (Or.inr (slot_ne (Or.inr (wq hw 24 rfl)) (Or.inr (wq hw 23 rfl)) (by decide) (t := .byte) (t' := (.array .byte)) (by decide) (by decide)))
  replace O0 : Ext Z.heap h2 := ext_wr O0 W2 ge_a
  replace N0 := Fr.snoc X2 N0 ge_a
  replace K0 : Keep h0 h2 [a] := K0.wr W2 (Or.inl (List.mem_of_getElem? (i := 0) rfl))
  refine OEnds.st (S' := T2.setTop (mkF m 11 #[vr a, vr t, vi 0] [(.int 0), (.ref a)])) (fun _ k => ?_) ?_
  · refine XS.aloadN X2.here hx rfl (hb hby d_jdk_42_151_9) rfl rfl ?_
    refine XS.iloadN X2.here hx rfl (hb hby d_jdk_42_151_10) rfl ?_
    exact k
  obtain ⟨T3, h3, X3, e3, W3, st3⟩ := putF X2 hx hZ hown (host := "") (Or.inl (wq hw 28 rfl)) Via.refl e2 F_coder_a E_a (Or.inr ⟨(wq hw 24 rfl), rfl, hnm⟩) (wq hw 9 rfl) (ty := .byte) (by decide) rfl rfl (g := (mkF m 11 #[vr a, vr t, vi 0] [(.int 0), (.ref a)])) rfl rfl (hb hby d_jdk_42_151_11)
  refine OEnds.st st3 ?_
  replace E_a := E_a.wr W3
  replace F_value_a := F_value_a.other W3 (Or.inr (slot_ne (Or.inr (wq hw 23 rfl)) (Or.inr (wq hw 24 rfl)) (by decide) (t := (.array .byte)) (t' := .byte) (by decide) (by decide)))
  replace F_coder_a := F_coder_a.same W3
  replace O0 : Ext Z.heap h3 := ext_wr O0 W3 ge_a
  replace N0 := Fr.snoc X3 N0 ge_a
  replace K0 : Keep h0 h3 [a] := K0.wr W3 (Or.inl (List.mem_of_getElem? (i := 0) rfl))
  exact OEnds.retV X3 hx hret hlk (hb hby d_jdk_42_151_14) (by decide) (by decide) (by rw [e3]; exact ⟨rfl, N0, K0, E_a, F_value_a, F_coder_a⟩)
-- java/lang/String.<init>:([CIILjava/lang/Void;)V
def Q_strE2 (Z : State) (a : Addr) (tc : Addr) (h0 : Heap) (v : Option Value) (h : Heap) (L : List Loc) : Prop := v = none ∧ Fr Z.heap.size L ∧ Keep h0 h [a] ∧ Exa Z h a "java/lang/String" ∧ Fld Z h a "java/lang/String" "coder" "B" (.int 0) ∧ ∃ (t : Addr) (kb : ClassId), Fld Z h a "java/lang/String" "value" "[B" (.ref t) ∧ Arv Z h t kb .byte (0 : Int32) [] (.int 0)
theorem ef_strE2 (m : MethodId) (a : Addr) (tc : Addr) : entryFrame m #[(.ref a), (.ref tc), (.int 0), (.int 0), .null] 6 = mkF m 0 #[vr a, vr tc, vi 0, vi 0, .val .null, .unset] [] := by first | (simp [entryFrame, mkF, argsToLocals, Value.category, vi, vj, vr]; done) | rfl
theorem d_jdk_42_149_0 : decode jdk_42_method_149_code 0 = .ok (.aload_n 0, 1) := by decide +kernel
theorem d_jdk_42_149_1 : decode jdk_42_method_149_code 1 = .ok (.invokespecial 1, 3) := by decide +kernel
theorem d_jdk_42_149_4 : decode jdk_42_method_149_code 4 = .ok (.iload_n 3, 1) := by decide +kernel
theorem d_jdk_42_149_5 : decode jdk_42_method_149_code 5 = .ok (.ifCond .ne 22, 3) := by decide +kernel
theorem d_jdk_42_149_8 : decode jdk_42_method_149_code 8 = .ok (.aload_n 0, 1) := by decide +kernel
theorem d_jdk_42_149_9 : decode jdk_42_method_149_code 9 = .ok (.ldc 7, 2) := by decide +kernel
theorem d_jdk_42_149_11 : decode jdk_42_method_149_code 11 = .ok (.getfield 9, 3) := by decide +kernel
theorem d_jdk_42_149_14 : decode jdk_42_method_149_code 14 = .ok (.putfield 9, 3) := by decide +kernel
theorem d_jdk_42_149_17 : decode jdk_42_method_149_code 17 = .ok (.aload_n 0, 1) := by decide +kernel
theorem d_jdk_42_149_18 : decode jdk_42_method_149_code 18 = .ok (.ldc 7, 2) := by decide +kernel
theorem d_jdk_42_149_20 : decode jdk_42_method_149_code 20 = .ok (.getfield 15, 3) := by decide +kernel
theorem d_jdk_42_149_23 : decode jdk_42_method_149_code 23 = .ok (.putfield 15, 3) := by decide +kernel
theorem d_jdk_42_149_26 : decode jdk_42_method_149_code 26 = .ok (.return_, 1) := by decide +kernel
set_option maxRecDepth 65536 in
set_option maxHeartbeats 40000000 in
theorem rm_strE2 (l : Launch) {Z : State} {a0 : Array Value} (hD : Wd Z a0) (a : Addr) (tc : Addr) {h0 : Heap} (O0 : Ext Z.heap h0) (E_a : Exa Z h0 a "java/lang/String") (F_value_a : Fld Z h0 a "java/lang/String" "value" "[B" .null) (F_coder_a : Fld Z h0 a "java/lang/String" "coder" "B" (.int 0)) (ge_a : Z.heap.size ≤ a) :
    ConH l Z EL (⟨"java/lang/String", "<init>", "([CIILjava/lang/Void;)V"⟩ : MethodName) jdk_42_method_149_code 6 none [] ({ frames := 1, cells := 4, slots := 8, locals := 12 } : Room) #[(.ref a), (.ref tc), (.int 0), (.int 0), .null] h0 [a] (Q_strE2 Z a tc h0) := by
  refine ConH.walk (plainFor_of_name pn_1) ?_
  intro p e s vm0 k0 m below meth c T0 X0 hS0 hk0 hx hZ hby hml hown hnm hret hlk e0 A0 hss
  obtain ⟨hw, ⟨cz, S_CS, hcz⟩, ⟨sf, S_SF, hsf⟩⟩ := id hD
  have N0 := Fr.nil Z.heap.size
  have K0 : Keep h0 h0 [a] := Keep.refl _ _
  have S_a := hss a (List.mem_of_getElem? (i := 0) rfl)
  have hEL : EW Z a0 EL := el_of hw
  have hsa : ∀ a ∈ Bundle.stringAtoms, a.before a0 Z = true := fun d hd => hw d (words_sa d hd)
  refine OEndsH.cast (ef_strE2 m a tc) ?_
  refine OEndsH.st (S' := T0.setTop (mkF m 1 #[vr a, vr tc, vi 0, vi 0, .val .null, .unset] [(.ref a)])) (fun _ k => ?_) ?_
  · refine XS.aloadN X0.here hx rfl (hb hby d_jdk_42_149_0) rfl rfl ?_
    exact k
  obtain ⟨T1, X1, e1, st1⟩ := initO X0 hx hZ hown (wq hw 18 rfl) (wq hw 19 rfl) (wq hw 20 rfl) e0 (g := (mkF m 1 #[vr a, vr tc, vi 0, vi 0, .val .null, .unset] [(.ref a)])) rfl (by rw [hml]; rfl) rfl (hb hby d_jdk_42_149_1) (by decide) (W := 0) (by show 2 * 0 + _ ≤ _; exact Nat.le_of_eq rfl) (by decide)
  refine OEndsH.st st1 ?_
  refine OEndsH.st (S' := T1.setTop (mkF m 9 #[vr a, vr tc, vi 0, vi 0, .val .null, .unset] [(.ref a)])) (fun _ k => ?_) ?_
  · refine XS.iloadN X1.here hx rfl (hb hby d_jdk_42_149_4) rfl ?_
    refine XS.ifNo X1.here hx rfl (hb hby d_jdk_42_149_5) rfl ((if0 _ _).trans (teq (by decide)).2) ?_
    refine XS.aloadN X1.here hx rfl (hb hby d_jdk_42_149_8) rfl rfl ?_
    exact k
  obtain ⟨b2, T2, h2, k12, t2, kb2, X2, e2, E2, hS2, hk2, hZ2, hown2, Es2, Fc2, Fv2, V2, -, -, Aq2, -, nes2, st2⟩ := ldcCH X1 hx hZ hown (wq hw 21 rfl) hsa e1 hS0 hk0 hEL (List.mem_of_getElem? (i := 0) rfl) A0.1 (vs := []) (z := (0 : Int32)) ⟨by decide, by decide⟩ (by decide) rfl (g := (mkF m 9 #[vr a, vr tc, vi 0, vi 0, .val .null, .unset] [(.ref a)])) rfl (hb hby d_jdk_42_149_9) (n := 0) (by decide) (by decide) (by decide) (by decide)
  replace hZ2 : Z.Warmed39 T2.vm := hZ2
  replace hown2 : T2.vm.findClass "java/lang/String" = some m.cls := hown2
  replace S_a : Safe Z EL T2.vm h2 a := Aq2.safe E_a.lt S_a
  replace A0 : CHr Z EL s.vm s.heap T2.vm h2 := A0.trans Aq2
  refine OEndsH.st st2 ?_
  have ne_a_b2 : a ≠ b2 := (nes2 a S_a).1
  have ne_a_t2 : a ≠ t2 := (nes2 a S_a).2
  replace E_a := E_a.ext E2
  replace F_value_a := F_value_a.ext E2
  replace F_coder_a := F_coder_a.ext E2
  replace O0 : Ext Z.heap h2 := ext_trans O0 E2
  replace K0 : Keep h0 h2 [a] := K0.ext E2
  obtain ⟨T3, X3, e3, st3⟩ := getF X2 hx hZ2 hown2 (host := "") (Or.inl (wq hw 27 rfl)) Via.refl e2 Fv2 (g := (mkF m 11 #[vr a, vr tc, vi 0, vi 0, .val .null, .unset] [(.ref b2), (.ref a)])) rfl rfl (hb hby d_jdk_42_149_11)
  refine OEndsH.st st3 ?_
  obtain ⟨T4, h4, X4, e4, W4, st4⟩ := putF X3 hx hZ2 hown2 (host := "") (Or.inl (wq hw 27 rfl)) Via.refl e3 F_value_a E_a (Or.inr ⟨(wq hw 23 rfl), rfl, hnm⟩) (wq hw 9 rfl) (ty := (.array .byte)) (by decide) rfl rfl (g := (mkF m 14 #[vr a, vr tc, vi 0, vi 0, .val .null, .unset] [(.ref t2), (.ref a)])) rfl rfl (hb hby d_jdk_42_149_14)
  refine OEndsH.st st4 ?_
  replace E_a := E_a.wr W4
  replace F_value_a := F_value_a.same W4
  replace F_coder_a := F_coder_a.other W4 (Or.inr (slot_ne (Or.inr (wq hw 24 rfl)) (Or.inr (wq hw 23 rfl)) (by decide) (t := .byte) (t' := (.array .byte)) (by decide) (by decide)))
  replace Es2 := Es2.wr W4
  replace Fc2 := Fc2.other W4 (Or.inl (Ne.symm ne_a_b2))
  replace Fv2 := Fv2.other W4 (Or.inl (Ne.symm ne_a_b2))
  replace V2 := V2.other W4 (Ne.symm ne_a_t2)
  have S_a' : Safe Z EL T2.vm h4 a := Safe.wr W4 S_a A0.1 S_a
  have A' : CHr Z EL s.vm s.heap T2.vm h4 := A0.trans (CHr.wr W4 S_a A0.1)
  replace S_a := S_a'
  replace A0 := A'
  replace hk2 := Nat.le_trans hk2 (Keep.of_wr W4).1
  replace O0 : Ext Z.heap h4 := ext_wr O0 W4 ge_a
  replace N0 := Fr.snoc X4 N0 ge_a
  replace K0 : Keep h0 h4 [a] := K0.wr W4 (Or.inl (List.mem_of_getElem? (i := 0) rfl))
  refine OEndsH.st (S' := T4.setTop (mkF m 18 #[vr a, vr tc, vi 0, vi 0, .val .null, .unset] [(.ref a)])) (fun _ k => ?_) ?_
  · refine XS.aloadN X4.here hx rfl (hb hby d_jdk_42_149_17) rfl rfl ?_
    exact k
  obtain ⟨b5, T5, h5, k15, t5, kb5, X5, e5, E5, hS5, hk5, hZ5, hown5, Es5, Fc5, Fv5, V5, -, -, Aq5, -, nes5, st5⟩ := ldcCH X4 hx hZ2 hown2 (wq hw 21 rfl) hsa e4 hS2 hk2 hEL (List.mem_of_getElem? (i := 0) rfl) A0.1 (vs := []) (z := (0 : Int32)) ⟨by decide, by decide⟩ (by decide) rfl (g := (mkF m 18 #[vr a, vr tc, vi 0, vi 0, .val .null, .unset] [(.ref a)])) rfl (hb hby d_jdk_42_149_18) (n := 0) (by decide) (by decide) (by decide) (by decide)
  replace hZ5 : Z.Warmed39 T5.vm := hZ5
  replace hown5 : T5.vm.findClass "java/lang/String" = some m.cls := hown5
  replace S_a : Safe Z EL T5.vm h5 a := Aq5.safe E_a.lt S_a
  replace A0 : CHr Z EL s.vm s.heap T5.vm h5 := A0.trans Aq5
  refine OEndsH.st st5 ?_
  have ne_a_b5 : a ≠ b5 := (nes5 a S_a).1
  have ne_a_t5 : a ≠ t5 := (nes5 a S_a).2
  replace E_a := E_a.ext E5
  replace F_value_a := F_value_a.ext E5
  replace F_coder_a := F_coder_a.ext E5
  replace Es2 := Es2.ext E5
  replace Fc2 := Fc2.ext E5
  replace Fv2 := Fv2.ext E5
  replace V2 := V2.ext E5
  replace O0 : Ext Z.heap h5 := ext_trans O0 E5
  replace K0 : Keep h0 h5 [a] := K0.ext E5
  obtain ⟨T6, X6, e6, st6⟩ := getF X5 hx hZ5 hown5 (host := "") (Or.inl (wq hw 28 rfl)) Via.refl e5 Fc5 (g := (mkF m 20 #[vr a, vr tc, vi 0, vi 0, .val .null, .unset] [(.ref b5), (.ref a)])) rfl rfl (hb hby d_jdk_42_149_20)
  refine OEndsH.st st6 ?_
  obtain ⟨T7, h7, X7, e7, W7, st7⟩ := putF X6 hx hZ5 hown5 (host := "") (Or.inl (wq hw 28 rfl)) Via.refl e6 F_coder_a E_a (Or.inr ⟨(wq hw 24 rfl), rfl, hnm⟩) (wq hw 9 rfl) (ty := .byte) (by decide) rfl rfl (g := (mkF m 23 #[vr a, vr tc, vi 0, vi 0, .val .null, .unset] [(.int 0), (.ref a)])) rfl rfl (hb hby d_jdk_42_149_23)
  refine OEndsH.st st7 ?_
  replace E_a := E_a.wr W7
  replace F_value_a := F_value_a.other W7 (Or.inr (slot_ne (Or.inr (wq hw 23 rfl)) (Or.inr (wq hw 24 rfl)) (by decide) (t := (.array .byte)) (t' := .byte) (by decide) (by decide)))
  replace F_coder_a := F_coder_a.same W7
  replace Es2 := Es2.wr W7
  replace Fc2 := Fc2.other W7 (Or.inl (Ne.symm ne_a_b2))
  replace Fv2 := Fv2.other W7 (Or.inl (Ne.symm ne_a_b2))
  replace V2 := V2.other W7 (Ne.symm ne_a_t2)
  replace Es5 := Es5.wr W7
  replace Fc5 := Fc5.other W7 (Or.inl (Ne.symm ne_a_b5))
  replace Fv5 := Fv5.other W7 (Or.inl (Ne.symm ne_a_b5))
  replace V5 := V5.other W7 (Ne.symm ne_a_t5)
  have S_a' : Safe Z EL T5.vm h7 a := Safe.wr W7 S_a A0.1 S_a
  have A' : CHr Z EL s.vm s.heap T5.vm h7 := A0.trans (CHr.wr W7 S_a A0.1)
  replace S_a := S_a'
  replace A0 := A'
  replace hk5 := Nat.le_trans hk5 (Keep.of_wr W7).1
  replace O0 : Ext Z.heap h7 := ext_wr O0 W7 ge_a
  replace N0 := Fr.snoc X7 N0 ge_a
  replace K0 : Keep h0 h7 [a] := K0.wr W7 (Or.inl (List.mem_of_getElem? (i := 0) rfl))
  exact OEndsH.retV X7 hx hZ5 hEL e7 hS5 hk5 A0 hret hlk (hb hby d_jdk_42_149_26) (by decide) (by decide) ⟨rfl, N0, K0, E_a, F_coder_a, t2, _, F_value_a, V2⟩
-- java/lang/String.<init>:([C)V
def Q_strE1 (Z : State) (a : Addr) (tc : Addr) (k : ClassId) (h0 : Heap) (v : Option Value) (h : Heap) (L : List Loc) : Prop := v = none ∧ Fr Z.heap.size L ∧ Keep h0 h [a] ∧ Exa Z h a "java/lang/String" ∧ Fld Z h a "java/lang/String" "coder" "B" (.int 0) ∧ ∃ (t : Addr) (kb : ClassId), Fld Z h a "java/lang/String" "value" "[B" (.ref t) ∧ Arv Z h t kb .byte (0 : Int32) [] (.int 0)
theorem ef_strE1 (m : MethodId) (a : Addr) (tc : Addr) : entryFrame m #[(.ref a), (.ref tc)] 2 = mkF m 0 #[vr a, vr tc] [] := by first | (simp [entryFrame, mkF, argsToLocals, Value.category, vi, vj, vr]; done) | rfl
theorem d_jdk_42_3_0 : decode jdk_42_method_3_code 0 = .ok (.aload_n 0, 1) := by decide +kernel
theorem d_jdk_42_3_1 : decode jdk_42_method_3_code 1 = .ok (.aload_n 1, 1) := by decide +kernel
theorem d_jdk_42_3_2 : decode jdk_42_method_3_code 2 = .ok (.iconst 0, 1) := by decide +kernel
theorem d_jdk_42_3_3 : decode jdk_42_method_3_code 3 = .ok (.aload_n 1, 1) := by decide +kernel
theorem d_jdk_42_3_4 : decode jdk_42_method_3_code 4 = .ok (.arraylength, 1) := by decide +kernel
theorem d_jdk_42_3_5 : decode jdk_42_method_3_code 5 = .ok (.aconst_null, 1) := by decide +kernel
theorem d_jdk_42_3_6 : decode jdk_42_method_3_code 6 = .ok (.invokespecial 27, 3) := by decide +kernel
theorem pd_1 : parseMethodDescriptor "([CIILjava/lang/Void;)V" = some ⟨[(.array .char), .int, .int, (.object "java/lang/Void")], none⟩ := by decide +kernel
theorem d_jdk_42_3_9 : decode jdk_42_method_3_code 9 = .ok (.return_, 1) := by decide +kernel
set_option maxRecDepth 65536 in
set_option maxHeartbeats 40000000 in
theorem rm_strE1 (l : Launch) {Z : State} {a0 : Array Value} (hD : Wd Z a0) (a : Addr) (tc : Addr) (k : ClassId) {h0 : Heap} (O0 : Ext Z.heap h0) (E_a : Exa Z h0 a "java/lang/String") (F_value_a : Fld Z h0 a "java/lang/String" "value" "[B" .null) (F_coder_a : Fld Z h0 a "java/lang/String" "coder" "B" (.int 0)) (ge_a : Z.heap.size ≤ a) (V_tc : Arv Z h0 tc k .char (0 : Int32) [] (.int 0)) :
    ConH l Z EL (⟨"java/lang/String", "<init>", "([C)V"⟩ : MethodName) jdk_42_method_3_code 2 none [] ({ frames := 2, cells := 4, slots := 8, locals := 29 } : Room) #[(.ref a), (.ref tc)] h0 [a] (Q_strE1 Z a tc k h0) := by
  refine ConH.walk (plainFor_of_name pn_1) ?_
  intro p e s vm0 k0 m below meth c T0 X0 hS0 hk0 hx hZ hby hml hown hnm hret hlk e0 A0 hss
  obtain ⟨hw, ⟨cz, S_CS, hcz⟩, ⟨sf, S_SF, hsf⟩⟩ := id hD
  have N0 := Fr.nil Z.heap.size
  have K0 : Keep h0 h0 [a] := Keep.refl _ _
  have S_a := hss a (List.mem_of_getElem? (i := 0) rfl)
  have hEL : EW Z a0 EL := el_of hw
  have hsa : ∀ a ∈ Bundle.stringAtoms, a.before a0 Z = true := fun d hd => hw d (words_sa d hd)
  refine OEndsH.cast (ef_strE1 m a tc) ?_
  refine OEndsH.st (S' := T0.setTop (mkF m 4 #[vr a, vr tc] [(.ref tc), (.int 0), (.ref tc), (.ref a)])) (fun _ k => ?_) ?_
  · refine XS.aloadN X0.here hx rfl (hb hby d_jdk_42_3_0) rfl rfl ?_
    refine XS.aloadN X0.here hx rfl (hb hby d_jdk_42_3_1) rfl rfl ?_
    refine XS.iconst X0.here hx rfl (hb hby d_jdk_42_3_2) ?_
    refine XS.aloadN X0.here hx rfl (hb hby d_jdk_42_3_3) rfl rfl ?_
    exact k
  obtain ⟨cl_tc_1, Ar_tc_1, q_tc_1, S_tc_1, N_tc_1, H_tc_1, G_tc_1⟩ := id V_tc
  refine OEndsH.st (S' := T0.setTop (mkF m 5 #[vr a, vr tc] [(.int 0), (.int 0), (.ref tc), (.ref a)])) (fun tg kq9 => X0.arraylength hx (by rw [e0]; exact Ar_tc_1.1) (State.isArrayOf_alike hZ.alike Ar_tc_1.2.1) (g := (mkF m 4 #[vr a, vr tc] [(.ref tc), (.int 0), (.ref tc), (.ref a)])) rfl rfl (hb hby d_jdk_42_3_4) tg (by rw [len_of S_tc_1 N_tc_1]; exact kq9)) ?_
  refine OEndsH.st (S' := T0.setTop (mkF m 6 #[vr a, vr tc] [.null, (.int 0), (.int 0), (.ref tc), (.ref a)])) (fun _ k => ?_) ?_
  · refine XS.aconstNull X0.here hx rfl (hb hby d_jdk_42_3_5) ?_
    exact k
  obtain ⟨_, T2, h2, L2, vm2, k12, X2, e2, hQ2, hS2, hk2, hZ2, hown2, Aq2, st2⟩ := specH X0 hx hZ rfl hown (wq hw 14 rfl) (wq hw 15 rfl) (wq hw 17 rfl) (by decide) (kc := 4) (ks := 8) (ConH.sb (W := 0) (rm_strE2 l hD a tc O0 E_a F_value_a F_coder_a ge_a) hZ (wq hw 17 rfl) (wq hw 10 rfl) (by decide) (by decide) hEL A0.1 (allS ⟨E_a.lt, S_a⟩ all0)) e0 hS0 hk0 (a := a) (g := (mkF m 6 #[vr a, vr tc] [.null, (.int 0), (.int 0), (.ref tc), (.ref a)])) rfl (by rw [hml]; rfl) (argsL := [(.ref tc), (.int 0), (.int 0), .null]) (rest := []) (lenOf pd_1 rfl) rfl (by show 2 * 0 + _ ≤ _; exact Nat.le_of_eq rfl) (hb hby d_jdk_42_3_6) (by decide) (by decide)
  obtain ⟨rfl, Nq2, Kq2, Eq2, Fc2, tq2, kq2, Fv2, V2⟩ := hQ2
  replace S_a : Safe Z EL vm2 h2 a := Aq2.safe E_a.lt S_a
  replace A0 : CHr Z EL s.vm s.heap vm2 h2 := A0.trans Aq2
  refine OEndsH.st st2 ?_
  replace N0 := Fr.app N0 Nq2
  have ne_tc_a : tc ≠ a := Ne.symm (ne_arv E_a (wq hw 9 rfl) V_tc)
  replace E_a := E_a.keep Kq2
  replace V_tc := V_tc.keep Kq2 (ninS ne_tc_a nin0)
  replace O0 : Ext Z.heap h2 := ext_keep O0 Kq2 (allS ge_a all0)
  replace K0 : Keep h0 h2 [a] := K0.trans Kq2 (allS (Or.inl (List.mem_of_getElem? (i := 0) rfl)) all0)
  exact OEndsH.retV X2 hx hZ2 hEL e2 hS2 hk2 A0 hret hlk (hb hby d_jdk_42_3_9) (by decide) (by decide) ⟨rfl, N0, K0, E_a, Fc2, tq2, _, Fv2, V2⟩
-- com/example/nudge_over_socket/nudgeoversocket/protocol/ChannelNamesIsOpenToPinLaw.take:([CI)Ljava/lang/String;
def Q_take (Z : State) (tc : Addr) (ln : Int32) (k : ClassId) (x0 x1 x2 x3 x4 x5 x6 x7 x8 : Int32) (h0 : Heap) (v : Option Value) (h : Heap) (L : List Loc) : Prop := ∃ (r : Addr) (n : Nat), v = some (.ref r) ∧ Fr Z.heap.size L ∧ Keep h0 h [] ∧ n ≤ 9 ∧ ln = Int32.ofNat n ∧ Exa Z h r "java/lang/String" ∧ Fld Z h r "java/lang/String" "coder" "B" (.int 0) ∧ ∃ (t : Addr) (kb : ClassId), Fld Z h r "java/lang/String" "value" "[B" (.ref t) ∧ Arv Z h t kb .byte (Int32.ofNat n) (bys (List.take n [x0, x1, x2, x3, x4, x5, x6, x7, x8])) (.int 0)
theorem ef_take (m : MethodId) (tc : Addr) (ln : Int32) : entryFrame m #[(.ref tc), (.int ln)] 2 = mkF m 0 #[vr tc, vi ln] [] := by first | (simp [entryFrame, mkF, argsToLocals, Value.category, vi, vj, vr]; done) | rfl
theorem d_4_0 : decode method_4_code 0 = .ok (.iload_n 1, 1) := by decide +kernel
theorem d_4_1 : decode method_4_code 1 = .ok (.ifCond .gt 14, 3) := by decide +kernel
theorem d_4_15 : decode method_4_code 15 = .ok (.iload_n 1, 1) := by decide +kernel
theorem d_4_16 : decode method_4_code 16 = .ok (.iconst 1, 1) := by decide +kernel
theorem d_4_17 : decode method_4_code 17 = .ok (.if_icmp .ne 20, 3) := by decide +kernel
theorem d_4_20 : decode method_4_code 20 = .ok (.new 23, 3) := by decide +kernel
theorem d_4_23 : decode method_4_code 23 = .ok (.dup, 1) := by decide +kernel
theorem d_4_24 : decode method_4_code 24 = .ok (.iconst 1, 1) := by decide +kernel
theorem d_4_25 : decode method_4_code 25 = .ok (.newarray .char, 2) := by decide +kernel
theorem d_4_27 : decode method_4_code 27 = .ok (.dup, 1) := by decide +kernel
theorem d_4_28 : decode method_4_code 28 = .ok (.iconst 0, 1) := by decide +kernel
theorem d_4_29 : decode method_4_code 29 = .ok (.aload_n 0, 1) := by decide +kernel
theorem d_4_30 : decode method_4_code 30 = .ok (.iconst 0, 1) := by decide +kernel
theorem d_4_31 : decode method_4_code 31 = .ok (.caload, 1) := by decide +kernel
theorem d_4_32 : decode method_4_code 32 = .ok (.castore, 1) := by decide +kernel
theorem d_4_33 : decode method_4_code 33 = .ok (.invokespecial 25, 3) := by decide +kernel
theorem pd_2 : parseMethodDescriptor "([C)V" = some ⟨[(.array .char)], none⟩ := by decide +kernel
theorem d_4_36 : decode method_4_code 36 = .ok (.areturn, 1) := by decide +kernel
theorem d_4_37 : decode method_4_code 37 = .ok (.iload_n 1, 1) := by decide +kernel
theorem d_4_38 : decode method_4_code 38 = .ok (.iconst 2, 1) := by decide +kernel
theorem d_4_39 : decode method_4_code 39 = .ok (.if_icmp .ne 26, 3) := by decide +kernel
theorem d_4_42 : decode method_4_code 42 = .ok (.new 23, 3) := by decide +kernel
theorem d_4_45 : decode method_4_code 45 = .ok (.dup, 1) := by decide +kernel
theorem d_4_46 : decode method_4_code 46 = .ok (.iconst 2, 1) := by decide +kernel
theorem d_4_47 : decode method_4_code 47 = .ok (.newarray .char, 2) := by decide +kernel
theorem d_4_49 : decode method_4_code 49 = .ok (.dup, 1) := by decide +kernel
theorem d_4_50 : decode method_4_code 50 = .ok (.iconst 0, 1) := by decide +kernel
theorem d_4_51 : decode method_4_code 51 = .ok (.aload_n 0, 1) := by decide +kernel
theorem d_4_52 : decode method_4_code 52 = .ok (.iconst 0, 1) := by decide +kernel
theorem d_4_53 : decode method_4_code 53 = .ok (.caload, 1) := by decide +kernel
theorem d_4_54 : decode method_4_code 54 = .ok (.castore, 1) := by decide +kernel
theorem d_4_55 : decode method_4_code 55 = .ok (.dup, 1) := by decide +kernel
theorem d_4_56 : decode method_4_code 56 = .ok (.iconst 1, 1) := by decide +kernel
theorem d_4_57 : decode method_4_code 57 = .ok (.aload_n 0, 1) := by decide +kernel
theorem d_4_58 : decode method_4_code 58 = .ok (.iconst 1, 1) := by decide +kernel
theorem d_4_59 : decode method_4_code 59 = .ok (.caload, 1) := by decide +kernel
theorem d_4_60 : decode method_4_code 60 = .ok (.castore, 1) := by decide +kernel
theorem d_4_61 : decode method_4_code 61 = .ok (.invokespecial 25, 3) := by decide +kernel
theorem d_4_64 : decode method_4_code 64 = .ok (.areturn, 1) := by decide +kernel
theorem d_4_65 : decode method_4_code 65 = .ok (.iload_n 1, 1) := by decide +kernel
theorem d_4_66 : decode method_4_code 66 = .ok (.iconst 3, 1) := by decide +kernel
theorem d_4_67 : decode method_4_code 67 = .ok (.if_icmp .ne 32, 3) := by decide +kernel
theorem d_4_70 : decode method_4_code 70 = .ok (.new 23, 3) := by decide +kernel
theorem d_4_73 : decode method_4_code 73 = .ok (.dup, 1) := by decide +kernel
theorem d_4_74 : decode method_4_code 74 = .ok (.iconst 3, 1) := by decide +kernel
theorem d_4_75 : decode method_4_code 75 = .ok (.newarray .char, 2) := by decide +kernel
theorem d_4_77 : decode method_4_code 77 = .ok (.dup, 1) := by decide +kernel
theorem d_4_78 : decode method_4_code 78 = .ok (.iconst 0, 1) := by decide +kernel
theorem d_4_79 : decode method_4_code 79 = .ok (.aload_n 0, 1) := by decide +kernel
theorem d_4_80 : decode method_4_code 80 = .ok (.iconst 0, 1) := by decide +kernel
theorem d_4_81 : decode method_4_code 81 = .ok (.caload, 1) := by decide +kernel
theorem d_4_82 : decode method_4_code 82 = .ok (.castore, 1) := by decide +kernel
theorem d_4_83 : decode method_4_code 83 = .ok (.dup, 1) := by decide +kernel
theorem d_4_84 : decode method_4_code 84 = .ok (.iconst 1, 1) := by decide +kernel
theorem d_4_85 : decode method_4_code 85 = .ok (.aload_n 0, 1) := by decide +kernel
theorem d_4_86 : decode method_4_code 86 = .ok (.iconst 1, 1) := by decide +kernel
theorem d_4_87 : decode method_4_code 87 = .ok (.caload, 1) := by decide +kernel
theorem d_4_88 : decode method_4_code 88 = .ok (.castore, 1) := by decide +kernel
theorem d_4_89 : decode method_4_code 89 = .ok (.dup, 1) := by decide +kernel
theorem d_4_90 : decode method_4_code 90 = .ok (.iconst 2, 1) := by decide +kernel
theorem d_4_91 : decode method_4_code 91 = .ok (.aload_n 0, 1) := by decide +kernel
theorem d_4_92 : decode method_4_code 92 = .ok (.iconst 2, 1) := by decide +kernel
theorem d_4_93 : decode method_4_code 93 = .ok (.caload, 1) := by decide +kernel
theorem d_4_94 : decode method_4_code 94 = .ok (.castore, 1) := by decide +kernel
theorem d_4_95 : decode method_4_code 95 = .ok (.invokespecial 25, 3) := by decide +kernel
theorem d_4_98 : decode method_4_code 98 = .ok (.areturn, 1) := by decide +kernel
theorem d_4_99 : decode method_4_code 99 = .ok (.iload_n 1, 1) := by decide +kernel
theorem d_4_100 : decode method_4_code 100 = .ok (.iconst 4, 1) := by decide +kernel
theorem d_4_101 : decode method_4_code 101 = .ok (.if_icmp .ne 38, 3) := by decide +kernel
theorem d_4_104 : decode method_4_code 104 = .ok (.new 23, 3) := by decide +kernel
theorem d_4_107 : decode method_4_code 107 = .ok (.dup, 1) := by decide +kernel
theorem d_4_108 : decode method_4_code 108 = .ok (.iconst 4, 1) := by decide +kernel
theorem d_4_109 : decode method_4_code 109 = .ok (.newarray .char, 2) := by decide +kernel
theorem d_4_111 : decode method_4_code 111 = .ok (.dup, 1) := by decide +kernel
theorem d_4_112 : decode method_4_code 112 = .ok (.iconst 0, 1) := by decide +kernel
theorem d_4_113 : decode method_4_code 113 = .ok (.aload_n 0, 1) := by decide +kernel
theorem d_4_114 : decode method_4_code 114 = .ok (.iconst 0, 1) := by decide +kernel
theorem d_4_115 : decode method_4_code 115 = .ok (.caload, 1) := by decide +kernel
theorem d_4_116 : decode method_4_code 116 = .ok (.castore, 1) := by decide +kernel
theorem d_4_117 : decode method_4_code 117 = .ok (.dup, 1) := by decide +kernel
theorem d_4_118 : decode method_4_code 118 = .ok (.iconst 1, 1) := by decide +kernel
theorem d_4_119 : decode method_4_code 119 = .ok (.aload_n 0, 1) := by decide +kernel
theorem d_4_120 : decode method_4_code 120 = .ok (.iconst 1, 1) := by decide +kernel
theorem d_4_121 : decode method_4_code 121 = .ok (.caload, 1) := by decide +kernel
theorem d_4_122 : decode method_4_code 122 = .ok (.castore, 1) := by decide +kernel
theorem d_4_123 : decode method_4_code 123 = .ok (.dup, 1) := by decide +kernel
theorem d_4_124 : decode method_4_code 124 = .ok (.iconst 2, 1) := by decide +kernel
theorem d_4_125 : decode method_4_code 125 = .ok (.aload_n 0, 1) := by decide +kernel
theorem d_4_126 : decode method_4_code 126 = .ok (.iconst 2, 1) := by decide +kernel
theorem d_4_127 : decode method_4_code 127 = .ok (.caload, 1) := by decide +kernel
theorem d_4_128 : decode method_4_code 128 = .ok (.castore, 1) := by decide +kernel
theorem d_4_129 : decode method_4_code 129 = .ok (.dup, 1) := by decide +kernel
theorem d_4_130 : decode method_4_code 130 = .ok (.iconst 3, 1) := by decide +kernel
theorem d_4_131 : decode method_4_code 131 = .ok (.aload_n 0, 1) := by decide +kernel
theorem d_4_132 : decode method_4_code 132 = .ok (.iconst 3, 1) := by decide +kernel
theorem d_4_133 : decode method_4_code 133 = .ok (.caload, 1) := by decide +kernel
theorem d_4_134 : decode method_4_code 134 = .ok (.castore, 1) := by decide +kernel
theorem d_4_135 : decode method_4_code 135 = .ok (.invokespecial 25, 3) := by decide +kernel
theorem d_4_138 : decode method_4_code 138 = .ok (.areturn, 1) := by decide +kernel
theorem d_4_139 : decode method_4_code 139 = .ok (.iload_n 1, 1) := by decide +kernel
theorem d_4_140 : decode method_4_code 140 = .ok (.iconst 5, 1) := by decide +kernel
theorem d_4_141 : decode method_4_code 141 = .ok (.if_icmp .ne 44, 3) := by decide +kernel
theorem d_4_144 : decode method_4_code 144 = .ok (.new 23, 3) := by decide +kernel
theorem d_4_147 : decode method_4_code 147 = .ok (.dup, 1) := by decide +kernel
theorem d_4_148 : decode method_4_code 148 = .ok (.iconst 5, 1) := by decide +kernel
theorem d_4_149 : decode method_4_code 149 = .ok (.newarray .char, 2) := by decide +kernel
theorem d_4_151 : decode method_4_code 151 = .ok (.dup, 1) := by decide +kernel
theorem d_4_152 : decode method_4_code 152 = .ok (.iconst 0, 1) := by decide +kernel
theorem d_4_153 : decode method_4_code 153 = .ok (.aload_n 0, 1) := by decide +kernel
theorem d_4_154 : decode method_4_code 154 = .ok (.iconst 0, 1) := by decide +kernel
theorem d_4_155 : decode method_4_code 155 = .ok (.caload, 1) := by decide +kernel
theorem d_4_156 : decode method_4_code 156 = .ok (.castore, 1) := by decide +kernel
theorem d_4_157 : decode method_4_code 157 = .ok (.dup, 1) := by decide +kernel
theorem d_4_158 : decode method_4_code 158 = .ok (.iconst 1, 1) := by decide +kernel
theorem d_4_159 : decode method_4_code 159 = .ok (.aload_n 0, 1) := by decide +kernel
theorem d_4_160 : decode method_4_code 160 = .ok (.iconst 1, 1) := by decide +kernel
theorem d_4_161 : decode method_4_code 161 = .ok (.caload, 1) := by decide +kernel
theorem d_4_162 : decode method_4_code 162 = .ok (.castore, 1) := by decide +kernel
theorem d_4_163 : decode method_4_code 163 = .ok (.dup, 1) := by decide +kernel
theorem d_4_164 : decode method_4_code 164 = .ok (.iconst 2, 1) := by decide +kernel
theorem d_4_165 : decode method_4_code 165 = .ok (.aload_n 0, 1) := by decide +kernel
theorem d_4_166 : decode method_4_code 166 = .ok (.iconst 2, 1) := by decide +kernel
theorem d_4_167 : decode method_4_code 167 = .ok (.caload, 1) := by decide +kernel
theorem d_4_168 : decode method_4_code 168 = .ok (.castore, 1) := by decide +kernel
theorem d_4_169 : decode method_4_code 169 = .ok (.dup, 1) := by decide +kernel
theorem d_4_170 : decode method_4_code 170 = .ok (.iconst 3, 1) := by decide +kernel
theorem d_4_171 : decode method_4_code 171 = .ok (.aload_n 0, 1) := by decide +kernel
theorem d_4_172 : decode method_4_code 172 = .ok (.iconst 3, 1) := by decide +kernel
theorem d_4_173 : decode method_4_code 173 = .ok (.caload, 1) := by decide +kernel
theorem d_4_174 : decode method_4_code 174 = .ok (.castore, 1) := by decide +kernel
theorem d_4_175 : decode method_4_code 175 = .ok (.dup, 1) := by decide +kernel
theorem d_4_176 : decode method_4_code 176 = .ok (.iconst 4, 1) := by decide +kernel
theorem d_4_177 : decode method_4_code 177 = .ok (.aload_n 0, 1) := by decide +kernel
theorem d_4_178 : decode method_4_code 178 = .ok (.iconst 4, 1) := by decide +kernel
theorem d_4_179 : decode method_4_code 179 = .ok (.caload, 1) := by decide +kernel
theorem d_4_180 : decode method_4_code 180 = .ok (.castore, 1) := by decide +kernel
theorem d_4_181 : decode method_4_code 181 = .ok (.invokespecial 25, 3) := by decide +kernel
theorem d_4_184 : decode method_4_code 184 = .ok (.areturn, 1) := by decide +kernel
theorem d_4_185 : decode method_4_code 185 = .ok (.iload_n 1, 1) := by decide +kernel
theorem d_4_186 : decode method_4_code 186 = .ok (.bipush 6, 2) := by decide +kernel
theorem d_4_188 : decode method_4_code 188 = .ok (.if_icmp .ne 51, 3) := by decide +kernel
theorem d_4_191 : decode method_4_code 191 = .ok (.new 23, 3) := by decide +kernel
theorem d_4_194 : decode method_4_code 194 = .ok (.dup, 1) := by decide +kernel
theorem d_4_195 : decode method_4_code 195 = .ok (.bipush 6, 2) := by decide +kernel
theorem d_4_197 : decode method_4_code 197 = .ok (.newarray .char, 2) := by decide +kernel
theorem d_4_199 : decode method_4_code 199 = .ok (.dup, 1) := by decide +kernel
theorem d_4_200 : decode method_4_code 200 = .ok (.iconst 0, 1) := by decide +kernel
theorem d_4_201 : decode method_4_code 201 = .ok (.aload_n 0, 1) := by decide +kernel
theorem d_4_202 : decode method_4_code 202 = .ok (.iconst 0, 1) := by decide +kernel
theorem d_4_203 : decode method_4_code 203 = .ok (.caload, 1) := by decide +kernel
theorem d_4_204 : decode method_4_code 204 = .ok (.castore, 1) := by decide +kernel
theorem d_4_205 : decode method_4_code 205 = .ok (.dup, 1) := by decide +kernel
theorem d_4_206 : decode method_4_code 206 = .ok (.iconst 1, 1) := by decide +kernel
theorem d_4_207 : decode method_4_code 207 = .ok (.aload_n 0, 1) := by decide +kernel
theorem d_4_208 : decode method_4_code 208 = .ok (.iconst 1, 1) := by decide +kernel
theorem d_4_209 : decode method_4_code 209 = .ok (.caload, 1) := by decide +kernel
theorem d_4_210 : decode method_4_code 210 = .ok (.castore, 1) := by decide +kernel
theorem d_4_211 : decode method_4_code 211 = .ok (.dup, 1) := by decide +kernel
theorem d_4_212 : decode method_4_code 212 = .ok (.iconst 2, 1) := by decide +kernel
theorem d_4_213 : decode method_4_code 213 = .ok (.aload_n 0, 1) := by decide +kernel
theorem d_4_214 : decode method_4_code 214 = .ok (.iconst 2, 1) := by decide +kernel
theorem d_4_215 : decode method_4_code 215 = .ok (.caload, 1) := by decide +kernel
theorem d_4_216 : decode method_4_code 216 = .ok (.castore, 1) := by decide +kernel
theorem d_4_217 : decode method_4_code 217 = .ok (.dup, 1) := by decide +kernel
theorem d_4_218 : decode method_4_code 218 = .ok (.iconst 3, 1) := by decide +kernel
theorem d_4_219 : decode method_4_code 219 = .ok (.aload_n 0, 1) := by decide +kernel
theorem d_4_220 : decode method_4_code 220 = .ok (.iconst 3, 1) := by decide +kernel
theorem d_4_221 : decode method_4_code 221 = .ok (.caload, 1) := by decide +kernel
theorem d_4_222 : decode method_4_code 222 = .ok (.castore, 1) := by decide +kernel
theorem d_4_223 : decode method_4_code 223 = .ok (.dup, 1) := by decide +kernel
theorem d_4_224 : decode method_4_code 224 = .ok (.iconst 4, 1) := by decide +kernel
theorem d_4_225 : decode method_4_code 225 = .ok (.aload_n 0, 1) := by decide +kernel
theorem d_4_226 : decode method_4_code 226 = .ok (.iconst 4, 1) := by decide +kernel
theorem d_4_227 : decode method_4_code 227 = .ok (.caload, 1) := by decide +kernel
theorem d_4_228 : decode method_4_code 228 = .ok (.castore, 1) := by decide +kernel
theorem d_4_229 : decode method_4_code 229 = .ok (.dup, 1) := by decide +kernel
theorem d_4_230 : decode method_4_code 230 = .ok (.iconst 5, 1) := by decide +kernel
theorem d_4_231 : decode method_4_code 231 = .ok (.aload_n 0, 1) := by decide +kernel
theorem d_4_232 : decode method_4_code 232 = .ok (.iconst 5, 1) := by decide +kernel
theorem d_4_233 : decode method_4_code 233 = .ok (.caload, 1) := by decide +kernel
theorem d_4_234 : decode method_4_code 234 = .ok (.castore, 1) := by decide +kernel
theorem d_4_235 : decode method_4_code 235 = .ok (.invokespecial 25, 3) := by decide +kernel
theorem d_4_238 : decode method_4_code 238 = .ok (.areturn, 1) := by decide +kernel
theorem d_4_239 : decode method_4_code 239 = .ok (.iload_n 1, 1) := by decide +kernel
theorem d_4_240 : decode method_4_code 240 = .ok (.bipush 7, 2) := by decide +kernel
theorem d_4_242 : decode method_4_code 242 = .ok (.if_icmp .ne 59, 3) := by decide +kernel
theorem d_4_245 : decode method_4_code 245 = .ok (.new 23, 3) := by decide +kernel
theorem d_4_248 : decode method_4_code 248 = .ok (.dup, 1) := by decide +kernel
theorem d_4_249 : decode method_4_code 249 = .ok (.bipush 7, 2) := by decide +kernel
theorem d_4_251 : decode method_4_code 251 = .ok (.newarray .char, 2) := by decide +kernel
theorem d_4_253 : decode method_4_code 253 = .ok (.dup, 1) := by decide +kernel
theorem d_4_254 : decode method_4_code 254 = .ok (.iconst 0, 1) := by decide +kernel
theorem d_4_255 : decode method_4_code 255 = .ok (.aload_n 0, 1) := by decide +kernel
theorem d_4_256 : decode method_4_code 256 = .ok (.iconst 0, 1) := by decide +kernel
theorem d_4_257 : decode method_4_code 257 = .ok (.caload, 1) := by decide +kernel
theorem d_4_258 : decode method_4_code 258 = .ok (.castore, 1) := by decide +kernel
theorem d_4_259 : decode method_4_code 259 = .ok (.dup, 1) := by decide +kernel
theorem d_4_260 : decode method_4_code 260 = .ok (.iconst 1, 1) := by decide +kernel
theorem d_4_261 : decode method_4_code 261 = .ok (.aload_n 0, 1) := by decide +kernel
theorem d_4_262 : decode method_4_code 262 = .ok (.iconst 1, 1) := by decide +kernel
theorem d_4_263 : decode method_4_code 263 = .ok (.caload, 1) := by decide +kernel
theorem d_4_264 : decode method_4_code 264 = .ok (.castore, 1) := by decide +kernel
theorem d_4_265 : decode method_4_code 265 = .ok (.dup, 1) := by decide +kernel
theorem d_4_266 : decode method_4_code 266 = .ok (.iconst 2, 1) := by decide +kernel
theorem d_4_267 : decode method_4_code 267 = .ok (.aload_n 0, 1) := by decide +kernel
theorem d_4_268 : decode method_4_code 268 = .ok (.iconst 2, 1) := by decide +kernel
theorem d_4_269 : decode method_4_code 269 = .ok (.caload, 1) := by decide +kernel
theorem d_4_270 : decode method_4_code 270 = .ok (.castore, 1) := by decide +kernel
theorem d_4_271 : decode method_4_code 271 = .ok (.dup, 1) := by decide +kernel
theorem d_4_272 : decode method_4_code 272 = .ok (.iconst 3, 1) := by decide +kernel
theorem d_4_273 : decode method_4_code 273 = .ok (.aload_n 0, 1) := by decide +kernel
theorem d_4_274 : decode method_4_code 274 = .ok (.iconst 3, 1) := by decide +kernel
theorem d_4_275 : decode method_4_code 275 = .ok (.caload, 1) := by decide +kernel
theorem d_4_276 : decode method_4_code 276 = .ok (.castore, 1) := by decide +kernel
theorem d_4_277 : decode method_4_code 277 = .ok (.dup, 1) := by decide +kernel
theorem d_4_278 : decode method_4_code 278 = .ok (.iconst 4, 1) := by decide +kernel
theorem d_4_279 : decode method_4_code 279 = .ok (.aload_n 0, 1) := by decide +kernel
theorem d_4_280 : decode method_4_code 280 = .ok (.iconst 4, 1) := by decide +kernel
theorem d_4_281 : decode method_4_code 281 = .ok (.caload, 1) := by decide +kernel
theorem d_4_282 : decode method_4_code 282 = .ok (.castore, 1) := by decide +kernel
theorem d_4_283 : decode method_4_code 283 = .ok (.dup, 1) := by decide +kernel
theorem d_4_284 : decode method_4_code 284 = .ok (.iconst 5, 1) := by decide +kernel
theorem d_4_285 : decode method_4_code 285 = .ok (.aload_n 0, 1) := by decide +kernel
theorem d_4_286 : decode method_4_code 286 = .ok (.iconst 5, 1) := by decide +kernel
theorem d_4_287 : decode method_4_code 287 = .ok (.caload, 1) := by decide +kernel
theorem d_4_288 : decode method_4_code 288 = .ok (.castore, 1) := by decide +kernel
theorem d_4_289 : decode method_4_code 289 = .ok (.dup, 1) := by decide +kernel
theorem d_4_290 : decode method_4_code 290 = .ok (.bipush 6, 2) := by decide +kernel
theorem d_4_292 : decode method_4_code 292 = .ok (.aload_n 0, 1) := by decide +kernel
theorem d_4_293 : decode method_4_code 293 = .ok (.bipush 6, 2) := by decide +kernel
theorem d_4_295 : decode method_4_code 295 = .ok (.caload, 1) := by decide +kernel
theorem d_4_296 : decode method_4_code 296 = .ok (.castore, 1) := by decide +kernel
theorem d_4_297 : decode method_4_code 297 = .ok (.invokespecial 25, 3) := by decide +kernel
theorem d_4_300 : decode method_4_code 300 = .ok (.areturn, 1) := by decide +kernel
theorem d_4_301 : decode method_4_code 301 = .ok (.iload_n 1, 1) := by decide +kernel
theorem d_4_302 : decode method_4_code 302 = .ok (.bipush 8, 2) := by decide +kernel
theorem d_4_304 : decode method_4_code 304 = .ok (.if_icmp .ne 67, 3) := by decide +kernel
theorem d_4_307 : decode method_4_code 307 = .ok (.new 23, 3) := by decide +kernel
theorem d_4_310 : decode method_4_code 310 = .ok (.dup, 1) := by decide +kernel
theorem d_4_311 : decode method_4_code 311 = .ok (.bipush 8, 2) := by decide +kernel
theorem d_4_313 : decode method_4_code 313 = .ok (.newarray .char, 2) := by decide +kernel
theorem d_4_315 : decode method_4_code 315 = .ok (.dup, 1) := by decide +kernel
theorem d_4_316 : decode method_4_code 316 = .ok (.iconst 0, 1) := by decide +kernel
theorem d_4_317 : decode method_4_code 317 = .ok (.aload_n 0, 1) := by decide +kernel
theorem d_4_318 : decode method_4_code 318 = .ok (.iconst 0, 1) := by decide +kernel
theorem d_4_319 : decode method_4_code 319 = .ok (.caload, 1) := by decide +kernel
theorem d_4_320 : decode method_4_code 320 = .ok (.castore, 1) := by decide +kernel
theorem d_4_321 : decode method_4_code 321 = .ok (.dup, 1) := by decide +kernel
theorem d_4_322 : decode method_4_code 322 = .ok (.iconst 1, 1) := by decide +kernel
theorem d_4_323 : decode method_4_code 323 = .ok (.aload_n 0, 1) := by decide +kernel
theorem d_4_324 : decode method_4_code 324 = .ok (.iconst 1, 1) := by decide +kernel
theorem d_4_325 : decode method_4_code 325 = .ok (.caload, 1) := by decide +kernel
theorem d_4_326 : decode method_4_code 326 = .ok (.castore, 1) := by decide +kernel
theorem d_4_327 : decode method_4_code 327 = .ok (.dup, 1) := by decide +kernel
theorem d_4_328 : decode method_4_code 328 = .ok (.iconst 2, 1) := by decide +kernel
theorem d_4_329 : decode method_4_code 329 = .ok (.aload_n 0, 1) := by decide +kernel
theorem d_4_330 : decode method_4_code 330 = .ok (.iconst 2, 1) := by decide +kernel
theorem d_4_331 : decode method_4_code 331 = .ok (.caload, 1) := by decide +kernel
theorem d_4_332 : decode method_4_code 332 = .ok (.castore, 1) := by decide +kernel
theorem d_4_333 : decode method_4_code 333 = .ok (.dup, 1) := by decide +kernel
theorem d_4_334 : decode method_4_code 334 = .ok (.iconst 3, 1) := by decide +kernel
theorem d_4_335 : decode method_4_code 335 = .ok (.aload_n 0, 1) := by decide +kernel
theorem d_4_336 : decode method_4_code 336 = .ok (.iconst 3, 1) := by decide +kernel
theorem d_4_337 : decode method_4_code 337 = .ok (.caload, 1) := by decide +kernel
theorem d_4_338 : decode method_4_code 338 = .ok (.castore, 1) := by decide +kernel
theorem d_4_339 : decode method_4_code 339 = .ok (.dup, 1) := by decide +kernel
theorem d_4_340 : decode method_4_code 340 = .ok (.iconst 4, 1) := by decide +kernel
theorem d_4_341 : decode method_4_code 341 = .ok (.aload_n 0, 1) := by decide +kernel
theorem d_4_342 : decode method_4_code 342 = .ok (.iconst 4, 1) := by decide +kernel
theorem d_4_343 : decode method_4_code 343 = .ok (.caload, 1) := by decide +kernel
theorem d_4_344 : decode method_4_code 344 = .ok (.castore, 1) := by decide +kernel
theorem d_4_345 : decode method_4_code 345 = .ok (.dup, 1) := by decide +kernel
theorem d_4_346 : decode method_4_code 346 = .ok (.iconst 5, 1) := by decide +kernel
theorem d_4_347 : decode method_4_code 347 = .ok (.aload_n 0, 1) := by decide +kernel
theorem d_4_348 : decode method_4_code 348 = .ok (.iconst 5, 1) := by decide +kernel
theorem d_4_349 : decode method_4_code 349 = .ok (.caload, 1) := by decide +kernel
theorem d_4_350 : decode method_4_code 350 = .ok (.castore, 1) := by decide +kernel
theorem d_4_351 : decode method_4_code 351 = .ok (.dup, 1) := by decide +kernel
theorem d_4_352 : decode method_4_code 352 = .ok (.bipush 6, 2) := by decide +kernel
theorem d_4_354 : decode method_4_code 354 = .ok (.aload_n 0, 1) := by decide +kernel
theorem d_4_355 : decode method_4_code 355 = .ok (.bipush 6, 2) := by decide +kernel
theorem d_4_357 : decode method_4_code 357 = .ok (.caload, 1) := by decide +kernel
theorem d_4_358 : decode method_4_code 358 = .ok (.castore, 1) := by decide +kernel
theorem d_4_359 : decode method_4_code 359 = .ok (.dup, 1) := by decide +kernel
theorem d_4_360 : decode method_4_code 360 = .ok (.bipush 7, 2) := by decide +kernel
theorem d_4_362 : decode method_4_code 362 = .ok (.aload_n 0, 1) := by decide +kernel
theorem d_4_363 : decode method_4_code 363 = .ok (.bipush 7, 2) := by decide +kernel
theorem d_4_365 : decode method_4_code 365 = .ok (.caload, 1) := by decide +kernel
theorem d_4_366 : decode method_4_code 366 = .ok (.castore, 1) := by decide +kernel
theorem d_4_367 : decode method_4_code 367 = .ok (.invokespecial 25, 3) := by decide +kernel
theorem d_4_370 : decode method_4_code 370 = .ok (.areturn, 1) := by decide +kernel
theorem d_4_371 : decode method_4_code 371 = .ok (.new 23, 3) := by decide +kernel
theorem d_4_374 : decode method_4_code 374 = .ok (.dup, 1) := by decide +kernel
theorem d_4_375 : decode method_4_code 375 = .ok (.bipush 9, 2) := by decide +kernel
theorem d_4_377 : decode method_4_code 377 = .ok (.newarray .char, 2) := by decide +kernel
theorem d_4_379 : decode method_4_code 379 = .ok (.dup, 1) := by decide +kernel
theorem d_4_380 : decode method_4_code 380 = .ok (.iconst 0, 1) := by decide +kernel
theorem d_4_381 : decode method_4_code 381 = .ok (.aload_n 0, 1) := by decide +kernel
theorem d_4_382 : decode method_4_code 382 = .ok (.iconst 0, 1) := by decide +kernel
theorem d_4_383 : decode method_4_code 383 = .ok (.caload, 1) := by decide +kernel
theorem d_4_384 : decode method_4_code 384 = .ok (.castore, 1) := by decide +kernel
theorem d_4_385 : decode method_4_code 385 = .ok (.dup, 1) := by decide +kernel
theorem d_4_386 : decode method_4_code 386 = .ok (.iconst 1, 1) := by decide +kernel
theorem d_4_387 : decode method_4_code 387 = .ok (.aload_n 0, 1) := by decide +kernel
theorem d_4_388 : decode method_4_code 388 = .ok (.iconst 1, 1) := by decide +kernel
theorem d_4_389 : decode method_4_code 389 = .ok (.caload, 1) := by decide +kernel
theorem d_4_390 : decode method_4_code 390 = .ok (.castore, 1) := by decide +kernel
theorem d_4_391 : decode method_4_code 391 = .ok (.dup, 1) := by decide +kernel
theorem d_4_392 : decode method_4_code 392 = .ok (.iconst 2, 1) := by decide +kernel
theorem d_4_393 : decode method_4_code 393 = .ok (.aload_n 0, 1) := by decide +kernel
theorem d_4_394 : decode method_4_code 394 = .ok (.iconst 2, 1) := by decide +kernel
theorem d_4_395 : decode method_4_code 395 = .ok (.caload, 1) := by decide +kernel
theorem d_4_396 : decode method_4_code 396 = .ok (.castore, 1) := by decide +kernel
theorem d_4_397 : decode method_4_code 397 = .ok (.dup, 1) := by decide +kernel
theorem d_4_398 : decode method_4_code 398 = .ok (.iconst 3, 1) := by decide +kernel
theorem d_4_399 : decode method_4_code 399 = .ok (.aload_n 0, 1) := by decide +kernel
theorem d_4_400 : decode method_4_code 400 = .ok (.iconst 3, 1) := by decide +kernel
theorem d_4_401 : decode method_4_code 401 = .ok (.caload, 1) := by decide +kernel
theorem d_4_402 : decode method_4_code 402 = .ok (.castore, 1) := by decide +kernel
theorem d_4_403 : decode method_4_code 403 = .ok (.dup, 1) := by decide +kernel
theorem d_4_404 : decode method_4_code 404 = .ok (.iconst 4, 1) := by decide +kernel
theorem d_4_405 : decode method_4_code 405 = .ok (.aload_n 0, 1) := by decide +kernel
theorem d_4_406 : decode method_4_code 406 = .ok (.iconst 4, 1) := by decide +kernel
theorem d_4_407 : decode method_4_code 407 = .ok (.caload, 1) := by decide +kernel
theorem d_4_408 : decode method_4_code 408 = .ok (.castore, 1) := by decide +kernel
theorem d_4_409 : decode method_4_code 409 = .ok (.dup, 1) := by decide +kernel
theorem d_4_410 : decode method_4_code 410 = .ok (.iconst 5, 1) := by decide +kernel
theorem d_4_411 : decode method_4_code 411 = .ok (.aload_n 0, 1) := by decide +kernel
theorem d_4_412 : decode method_4_code 412 = .ok (.iconst 5, 1) := by decide +kernel
theorem d_4_413 : decode method_4_code 413 = .ok (.caload, 1) := by decide +kernel
theorem d_4_414 : decode method_4_code 414 = .ok (.castore, 1) := by decide +kernel
theorem d_4_415 : decode method_4_code 415 = .ok (.dup, 1) := by decide +kernel
theorem d_4_416 : decode method_4_code 416 = .ok (.bipush 6, 2) := by decide +kernel
theorem d_4_418 : decode method_4_code 418 = .ok (.aload_n 0, 1) := by decide +kernel
theorem d_4_419 : decode method_4_code 419 = .ok (.bipush 6, 2) := by decide +kernel
theorem d_4_421 : decode method_4_code 421 = .ok (.caload, 1) := by decide +kernel
theorem d_4_422 : decode method_4_code 422 = .ok (.castore, 1) := by decide +kernel
theorem d_4_423 : decode method_4_code 423 = .ok (.dup, 1) := by decide +kernel
theorem d_4_424 : decode method_4_code 424 = .ok (.bipush 7, 2) := by decide +kernel
theorem d_4_426 : decode method_4_code 426 = .ok (.aload_n 0, 1) := by decide +kernel
theorem d_4_427 : decode method_4_code 427 = .ok (.bipush 7, 2) := by decide +kernel
theorem d_4_429 : decode method_4_code 429 = .ok (.caload, 1) := by decide +kernel
theorem d_4_430 : decode method_4_code 430 = .ok (.castore, 1) := by decide +kernel
theorem d_4_431 : decode method_4_code 431 = .ok (.dup, 1) := by decide +kernel
theorem d_4_432 : decode method_4_code 432 = .ok (.bipush 8, 2) := by decide +kernel
theorem d_4_434 : decode method_4_code 434 = .ok (.aload_n 0, 1) := by decide +kernel
theorem d_4_435 : decode method_4_code 435 = .ok (.bipush 8, 2) := by decide +kernel
theorem d_4_437 : decode method_4_code 437 = .ok (.caload, 1) := by decide +kernel
theorem d_4_438 : decode method_4_code 438 = .ok (.castore, 1) := by decide +kernel
theorem d_4_439 : decode method_4_code 439 = .ok (.invokespecial 25, 3) := by decide +kernel
theorem d_4_442 : decode method_4_code 442 = .ok (.areturn, 1) := by decide +kernel
theorem d_4_4 : decode method_4_code 4 = .ok (.new 23, 3) := by decide +kernel
theorem d_4_7 : decode method_4_code 7 = .ok (.dup, 1) := by decide +kernel
theorem d_4_8 : decode method_4_code 8 = .ok (.iconst 0, 1) := by decide +kernel
theorem d_4_9 : decode method_4_code 9 = .ok (.newarray .char, 2) := by decide +kernel
theorem d_4_11 : decode method_4_code 11 = .ok (.invokespecial 25, 3) := by decide +kernel
theorem d_4_14 : decode method_4_code 14 = .ok (.areturn, 1) := by decide +kernel
set_option maxRecDepth 65536 in
set_option maxHeartbeats 40000000 in
theorem rm_take (l : Launch) {Z : State} {a0 : Array Value} (hD : Wd Z a0) (tc : Addr) (ln : Int32) (k : ClassId) (x0 x1 x2 x3 x4 x5 x6 x7 x8 : Int32) {h0 : Heap} (O0 : Ext Z.heap h0) (V_tc : Arv Z h0 tc k .char (9 : Int32) [(.int x0), (.int x1), (.int x2), (.int x3), (.int x4), (.int x5), (.int x6), (.int x7), (.int x8)] (.int 0)) (hx0 : (¬ x0 < 0 ∧ ¬ (255 : Int32) < x0)) (hx1 : (¬ x1 < 0 ∧ ¬ (255 : Int32) < x1)) (hx2 : (¬ x2 < 0 ∧ ¬ (255 : Int32) < x2)) (hx3 : (¬ x3 < 0 ∧ ¬ (255 : Int32) < x3)) (hx4 : (¬ x4 < 0 ∧ ¬ (255 : Int32) < x4)) (hx5 : (¬ x5 < 0 ∧ ¬ (255 : Int32) < x5)) (hx6 : (¬ x6 < 0 ∧ ¬ (255 : Int32) < x6)) (hx7 : (¬ x7 < 0 ∧ ¬ (255 : Int32) < x7)) (hx8 : (¬ x8 < 0 ∧ ¬ (255 : Int32) < x8)) (hln : ¬ ln < 0 ∧ ¬ (9 : Int32) < ln) :
    ConH l Z EL (⟨"com/example/nudge_over_socket/nudgeoversocket/protocol/ChannelNamesIsOpenToPinLaw", "take", "([CI)Ljava/lang/String;"⟩ : MethodName) method_4_code 2 (some (.object "java/lang/String")) [] ({ frames := 4, cells := 6, slots := 22, locals := 66 } : Room) #[(.ref tc), (.int ln)] h0 [] (Q_take Z tc ln k x0 x1 x2 x3 x4 x5 x6 x7 x8 h0) := by
  refine ConH.walk (plainFor_of_name pn_0) ?_
  intro p e s vm0 k0 m below meth c T0 X0 hS0 hk0 hx hZ hby hml hown hnm hret hlk e0 A0 hss
  obtain ⟨hw, ⟨cz, S_CS, hcz⟩, ⟨sf, S_SF, hsf⟩⟩ := id hD
  have N0 := Fr.nil Z.heap.size
  have K0 : Keep h0 h0 [] := Keep.refl _ _
  have hEL : EW Z a0 EL := el_of hw
  have hsa : ∀ a ∈ Bundle.stringAtoms, a.before a0 Z = true := fun d hd => hw d (words_sa d hd)
  refine OEndsH.cast (ef_take m tc ln) ?_
  have hws : ∀ d ∈ StrChars.Road.words, d.before a0 Z = true := fun d hd => hw d (words_new d hd)
  refine OEndsH.st (S' := T0.setTop (mkF m 1 #[vr tc, vi ln] [(.int ln)])) (fun _ k => ?_) ?_
  · refine XS.iloadN X0.here hx rfl (hb hby d_4_0) rfl ?_
    exact k
  rcases Classical.em ((0 : Int32) < ln) with q0 | q0
  · refine OEndsH.st (S' := T0.setTop (mkF m 17 #[vr tc, vi ln] [(.int 1), (.int ln)])) (fun _ k => ?_) ?_
    · refine XS.ifYes X0.here hx rfl (pc0 := 1) (pc' := 15) rfl (hb hby d_4_1) rfl ((if0 _ _).trans (tlt q0).2.2.1) (by decide) (by decide) ?_
      refine XS.iloadN X0.here hx rfl (hb hby d_4_15) rfl ?_
      refine XS.iconst X0.here hx rfl (hb hby d_4_16) ?_
      exact k
    rcases Classical.em (ln = (1 : Int32)) with q1 | q1
    · refine OEndsH.st (S' := T0.setTop (mkF m 20 #[vr tc, vi ln] [])) (fun _ k => ?_) ?_
      · refine XS.icmpNo X0.here hx rfl (hb hby d_4_17) rfl (teq q1).2 ?_
        exact k
      obtain ⟨T1, h1, X1, e1, E1, A1, D1, U1, st1⟩ := newO X0 hx hZ hown (wq hw 8 rfl) (wq hw 9 rfl) (wq hw 10 rfl) e0 (g := (mkF m 20 #[vr tc, vi ln] [])) rfl (hb hby d_4_20) (by decide) (by decide)
      obtain ⟨b1, g1⟩ : ∃ z, z = h0.size := ⟨_, rfl⟩
      rw [← g1] at A1 D1 U1 st1
      refine OEndsH.st st1 ?_
      have ne_tc_b1 : tc ≠ b1 := Nat.ne_of_lt (Nat.lt_of_lt_of_le V_tc.lt (Nat.le_of_eq g1.symm))
      have ge_b1 : Z.heap.size ≤ b1 := Nat.le_trans O0.1 (Nat.le_of_eq g1.symm)
      have sz_b1 : h0.size ≤ b1 := Nat.le_trans K0.1 (Nat.le_of_eq g1.symm)
      have S_b1 : Safe Z EL vm0 h0 b1 := Safe.new (Nat.le_of_eq g1.symm)
      replace V_tc := V_tc.ext E1
      have S_b1' : Safe Z EL vm0 h1 b1 := Safe.ext E1 A0.1 S_b1
      have A' : CHr Z EL s.vm s.heap vm0 h1 := A0.trans (CHr.ext E1 A0.1)
      replace S_b1 := S_b1'
      replace A0 := A'
      replace hk0 := Nat.le_trans hk0 E1.1
      replace O0 : Ext Z.heap h1 := ext_trans O0 E1
      replace K0 : Keep h0 h1 [] := K0.ext E1
      have F_value_b1 : Fld Z h1 b1 "java/lang/String" "value" "[B" .null := D1 (Or.inr (wq hw 23 rfl)) (ty := (.array .byte)) (by decide)
      have F_coder_b1 : Fld Z h1 b1 "java/lang/String" "coder" "B" (.int 0) := D1 (Or.inr (wq hw 24 rfl)) (ty := .byte) (by decide)
      refine OEndsH.st (S' := T1.setTop (mkF m 25 #[vr tc, vi ln] [(.int 1), (.ref b1), (.ref b1)])) (fun _ k => ?_) ?_
      · refine XS.dup X1.here hx rfl (hb hby d_4_23) rfl rfl ?_
        refine XS.iconst X1.here hx rfl (hb hby d_4_24) ?_
        exact k
      obtain ⟨T2, h2, k2, X2, e2, E2, A2, st2⟩ := newP X1 hx hZ (wq hw 0 rfl) e1 (g := (mkF m 25 #[vr tc, vi ln] [(.int 1), (.ref b1), (.ref b1)])) rfl (hb hby d_4_25) rfl (by decide) (cap := 1) (by decide) (by decide) (by decide) (by decide)
      obtain ⟨b2, g2⟩ : ∃ z, z = h1.size := ⟨_, rfl⟩
      rw [← g2] at A2 st2
      refine OEndsH.st st2 ?_
      have ne_b1_b2 : b1 ≠ b2 := Nat.ne_of_lt (Nat.lt_of_lt_of_le A1.lt (Nat.le_of_eq g2.symm))
      have ne_tc_b2 : tc ≠ b2 := Nat.ne_of_lt (Nat.lt_of_lt_of_le V_tc.lt (Nat.le_of_eq g2.symm))
      have ge_b2 : Z.heap.size ≤ b2 := Nat.le_trans O0.1 (Nat.le_of_eq g2.symm)
      have sz_b2 : h0.size ≤ b2 := Nat.le_trans K0.1 (Nat.le_of_eq g2.symm)
      have S_b2 : Safe Z EL vm0 h1 b2 := Safe.new (Nat.le_of_eq g2.symm)
      replace V_tc := V_tc.ext E2
      replace A1 := A1.ext E2
      replace F_value_b1 := F_value_b1.ext E2
      replace F_coder_b1 := F_coder_b1.ext E2
      have S_b1' : Safe Z EL vm0 h2 b1 := Safe.ext E2 A0.1 S_b1
      have S_b2' : Safe Z EL vm0 h2 b2 := Safe.ext E2 A0.1 S_b2
      have A' : CHr Z EL s.vm s.heap vm0 h2 := A0.trans (CHr.ext E2 A0.1)
      replace S_b1 := S_b1'
      replace S_b2 := S_b2'
      replace A0 := A'
      replace hk0 := Nat.le_trans hk0 E2.1
      replace O0 : Ext Z.heap h2 := ext_trans O0 E2
      replace K0 : Keep h0 h2 [] := K0.ext E2
      have V_b2 : Arv Z h2 b2 k2 .char (1 : Int32) [(.int 0)] (.int 0) := (Arv.new A2 (by decide)).pad (pad_rep [] (.int 0) 1)
      refine OEndsH.st (S' := T2.setTop (mkF m 31 #[vr tc, vi ln] [(.int 0), (.ref tc), (.int 0), (.ref b2), (.ref b2), (.ref b1), (.ref b1)])) (fun _ k => ?_) ?_
      · refine XS.dup X2.here hx rfl (hb hby d_4_27) rfl rfl ?_
        refine XS.iconst X2.here hx rfl (hb hby d_4_28) ?_
        refine XS.aloadN X2.here hx rfl (hb hby d_4_29) rfl rfl ?_
        refine XS.iconst X2.here hx rfl (hb hby d_4_30) ?_
        exact k
      obtain ⟨cl_tc_3, Ar_tc_3, q_tc_3, S_tc_3, N_tc_3, H_tc_3, G_tc_3⟩ := id V_tc
      refine OEndsH.st (S' := T2.setTop (mkF m 32 #[vr tc, vi ln] [(.int x0), (.int 0), (.ref b2), (.ref b2), (.ref b1), (.ref b1)])) (X2.caload hx (j := (0 : Int32)) (v := (.int x0)) (by rw [e2]; exact Ar_tc_3.1) (State.isArrayOf_alike hZ.alike Ar_tc_3.2.1) Ar_tc_3.2.2 (inb_of S_tc_3 ⟨by decide, by decide⟩) (H_tc_3.at (inb_of S_tc_3 ⟨by decide, by decide⟩) rfl) (g := (mkF m 31 #[vr tc, vi ln] [(.int 0), (.ref tc), (.int 0), (.ref b2), (.ref b2), (.ref b1), (.ref b1)])) rfl rfl (hb hby d_4_31)) ?_
      obtain ⟨cl_b2_4, Ar_b2_4, q_b2_4, S_b2_4, N_b2_4, H_b2_4, G_b2_4⟩ := V_b2
      obtain ⟨T4, h4, X4, e4, W4, st4⟩ := stC X2 hx hZ e2 Ar_b2_4 (j := (0 : Int32)) (inb_of S_b2_4 ⟨by decide, by decide⟩) (g := (mkF m 32 #[vr tc, vi ln] [(.int x0), (.int 0), (.ref b2), (.ref b2), (.ref b1), (.ref b1)])) rfl rfl (hb hby d_4_32)
      have V_b2_4 : Arv Z h4 b2 k2 .char (1 : Int32) [(.int (nar .char x0))] (.int 0) := Arv.set Ar_b2_4 q_b2_4 S_b2_4 N_b2_4 H_b2_4 G_b2_4 (fits_nar_char _) W4 0 rfl (Nat.le_of_ble_eq_true rfl)
      refine OEndsH.st st4 ?_
      replace V_tc := V_tc.other W4 ne_tc_b2
      replace A1 := A1.wr W4
      replace F_value_b1 := F_value_b1.other W4 (Or.inl ne_b1_b2)
      replace F_coder_b1 := F_coder_b1.other W4 (Or.inl ne_b1_b2)
      have S_b1' : Safe Z EL vm0 h4 b1 := Safe.wr W4 S_b2 A0.1 S_b1
      have S_b2' : Safe Z EL vm0 h4 b2 := Safe.wr W4 S_b2 A0.1 S_b2
      have A' : CHr Z EL s.vm s.heap vm0 h4 := A0.trans (CHr.wr W4 S_b2 A0.1)
      replace S_b1 := S_b1'
      replace S_b2 := S_b2'
      replace A0 := A'
      replace hk0 := Nat.le_trans hk0 (Keep.of_wr W4).1
      replace O0 : Ext Z.heap h4 := ext_wr O0 W4 ge_b2
      replace N0 := Fr.snoc X4 N0 ge_b2
      replace K0 : Keep h0 h4 [] := K0.wr W4 (Or.inr sz_b2)
      simp only [nar_char (x := x0) hx0] at V_b2_4
      have hp5 : ∀ c ∈ ([x0] : List Int32), ¬ c < 0 ∧ ¬ (255 : Int32) < c := by
        intro c hc; simp only [List.mem_cons, List.not_mem_nil, or_false] at hc
        rcases hc with rfl
        · exact hx0
      obtain ⟨_, T6, h6, L6, X6, e6, hQ6, st6⟩ := specC X4 hx hZ rfl hown (wq hw 11 rfl) (wq hw 12 rfl) (wq hw 13 rfl) (by decide) (kc := 1) (ks := 1) (SB.of (Q := StrChars.Road.QV Z b1 (1 : Int32) (([x0] : List Int32).map (fun c => c.toInt8.toInt32)) h4 Z.heap.size) (StrChars.Road.backV (W := 1) hZ hws (kI := 4) (wq hw 9 rfl) (cs := ([x0] : List Int32)) (bs := (([x0] : List Int32).map (fun c => c.toInt8.toInt32))) (n := 1) ge_b1 O0.1 A1 F_value_b1 F_coder_b1 V_b2_4 (S_CS.ext O0) hcz rfl rfl (by decide) (by decide) hp5 rfl (by decide) (by decide))) e4 (a := b1) (g := (mkF m 33 #[vr tc, vi ln] [(.ref b2), (.ref b1), (.ref b1)])) rfl (by rw [hml]; rfl) (argsL := [(.ref b2)]) (rest := [(.ref b1)]) (lenOf pd_2 rfl) rfl (by show 2 * 0 + _ ≤ _; exact Nat.le_of_eq rfl) (hb hby d_4_33) (by decide) (by decide)
      obtain ⟨rfl, Nq6, Kq6, Eq6, Fc6, t6, kb6, gq6, szq6, nq6, Fv6, V6⟩ := hQ6
      refine OEndsH.st st6 ?_
      replace N0 := Fr.app N0 Nq6
      have ne_b1_t6 : b1 ≠ t6 := Nat.ne_of_lt (Nat.lt_of_lt_of_le A1.lt szq6)
      have ne_b2_t6 : b2 ≠ t6 := Nat.ne_of_lt (Nat.lt_of_lt_of_le V_b2_4.lt szq6)
      have ne_tc_t6 : tc ≠ t6 := Nat.ne_of_lt (Nat.lt_of_lt_of_le V_tc.lt szq6)
      have ge_t6 : Z.heap.size ≤ t6 := Nat.le_trans O0.1 szq6
      have S_t6 : Safe Z EL vm0 h4 t6 := Safe.new szq6
      have sz_t6 : h0.size ≤ t6 := Nat.le_trans K0.1 szq6
      replace V_tc := V_tc.keep Kq6 (ninS ne_tc_b1 nin0)
      replace A1 := A1.keep Kq6
      replace V_b2_4 := V_b2_4.keep Kq6 (ninS (Ne.symm ne_b1_b2) nin0)
      have S_b1' : Safe Z EL vm0 h6 b1 := Safe.keep Kq6 (sfS S_b1 sf0) A0.1 S_b1
      have S_b2' : Safe Z EL vm0 h6 b2 := Safe.keep Kq6 (sfS S_b1 sf0) A0.1 S_b2
      have S_t6' : Safe Z EL vm0 h6 t6 := Safe.keep Kq6 (sfS S_b1 sf0) A0.1 S_t6
      have A' : CHr Z EL s.vm s.heap vm0 h6 := A0.trans (CHr.keep Kq6 (sfS S_b1 sf0) A0.1)
      replace S_b1 := S_b1'
      replace S_b2 := S_b2'
      replace S_t6 := S_t6'
      replace A0 := A'
      replace hk0 := Nat.le_trans hk0 Kq6.1
      replace O0 : Ext Z.heap h6 := ext_keep O0 Kq6 (allS ge_b1 all0)
      replace K0 : Keep h0 h6 [] := K0.trans Kq6 (allS (Or.inr sz_b1) all0)
      replace V6 : Arv Z h6 t6 kb6 .byte (Int32.ofNat 1) [(.int (x0).toInt8.toInt32)] (.int 0) := V6
      clear V_b2_4
      exact OEndsH.ret X6 hx hZ hEL e6 hS0 hk0 A0 hret hlk rfl (Or.inr (Or.inr (Or.inr (Or.inr ⟨rfl, rfl, rfl⟩)))) (hb hby d_4_36) (by decide) (by decide) ⟨b1, 1, rfl, N0, K0, (by decide), q1, A1, Fc6, t6, _, Fv6, V6⟩
    · refine OEndsH.st (S' := T0.setTop (mkF m 39 #[vr tc, vi ln] [(.int 2), (.int ln)])) (fun _ k => ?_) ?_
      · refine XS.icmpYes X0.here hx rfl (pc0 := 17) (pc' := 37) rfl (hb hby d_4_17) rfl (feq q1).2 (by decide) (by decide) ?_
        refine XS.iloadN X0.here hx rfl (hb hby d_4_37) rfl ?_
        refine XS.iconst X0.here hx rfl (hb hby d_4_38) ?_
        exact k
      rcases Classical.em (ln = (2 : Int32)) with q2 | q2
      · refine OEndsH.st (S' := T0.setTop (mkF m 42 #[vr tc, vi ln] [])) (fun _ k => ?_) ?_
        · refine XS.icmpNo X0.here hx rfl (hb hby d_4_39) rfl (teq q2).2 ?_
          exact k
        obtain ⟨T1, h1, X1, e1, E1, A1, D1, U1, st1⟩ := newO X0 hx hZ hown (wq hw 8 rfl) (wq hw 9 rfl) (wq hw 10 rfl) e0 (g := (mkF m 42 #[vr tc, vi ln] [])) rfl (hb hby d_4_42) (by decide) (by decide)
        obtain ⟨b1, g1⟩ : ∃ z, z = h0.size := ⟨_, rfl⟩
        rw [← g1] at A1 D1 U1 st1
        refine OEndsH.st st1 ?_
        have ne_tc_b1 : tc ≠ b1 := Nat.ne_of_lt (Nat.lt_of_lt_of_le V_tc.lt (Nat.le_of_eq g1.symm))
        have ge_b1 : Z.heap.size ≤ b1 := Nat.le_trans O0.1 (Nat.le_of_eq g1.symm)
        have sz_b1 : h0.size ≤ b1 := Nat.le_trans K0.1 (Nat.le_of_eq g1.symm)
        have S_b1 : Safe Z EL vm0 h0 b1 := Safe.new (Nat.le_of_eq g1.symm)
        replace V_tc := V_tc.ext E1
        have S_b1' : Safe Z EL vm0 h1 b1 := Safe.ext E1 A0.1 S_b1
        have A' : CHr Z EL s.vm s.heap vm0 h1 := A0.trans (CHr.ext E1 A0.1)
        replace S_b1 := S_b1'
        replace A0 := A'
        replace hk0 := Nat.le_trans hk0 E1.1
        replace O0 : Ext Z.heap h1 := ext_trans O0 E1
        replace K0 : Keep h0 h1 [] := K0.ext E1
        have F_value_b1 : Fld Z h1 b1 "java/lang/String" "value" "[B" .null := D1 (Or.inr (wq hw 23 rfl)) (ty := (.array .byte)) (by decide)
        have F_coder_b1 : Fld Z h1 b1 "java/lang/String" "coder" "B" (.int 0) := D1 (Or.inr (wq hw 24 rfl)) (ty := .byte) (by decide)
        refine OEndsH.st (S' := T1.setTop (mkF m 47 #[vr tc, vi ln] [(.int 2), (.ref b1), (.ref b1)])) (fun _ k => ?_) ?_
        · refine XS.dup X1.here hx rfl (hb hby d_4_45) rfl rfl ?_
          refine XS.iconst X1.here hx rfl (hb hby d_4_46) ?_
          exact k
        obtain ⟨T2, h2, k2, X2, e2, E2, A2, st2⟩ := newP X1 hx hZ (wq hw 0 rfl) e1 (g := (mkF m 47 #[vr tc, vi ln] [(.int 2), (.ref b1), (.ref b1)])) rfl (hb hby d_4_47) rfl (by decide) (cap := 2) (by decide) (by decide) (by decide) (by decide)
        obtain ⟨b2, g2⟩ : ∃ z, z = h1.size := ⟨_, rfl⟩
        rw [← g2] at A2 st2
        refine OEndsH.st st2 ?_
        have ne_b1_b2 : b1 ≠ b2 := Nat.ne_of_lt (Nat.lt_of_lt_of_le A1.lt (Nat.le_of_eq g2.symm))
        have ne_tc_b2 : tc ≠ b2 := Nat.ne_of_lt (Nat.lt_of_lt_of_le V_tc.lt (Nat.le_of_eq g2.symm))
        have ge_b2 : Z.heap.size ≤ b2 := Nat.le_trans O0.1 (Nat.le_of_eq g2.symm)
        have sz_b2 : h0.size ≤ b2 := Nat.le_trans K0.1 (Nat.le_of_eq g2.symm)
        have S_b2 : Safe Z EL vm0 h1 b2 := Safe.new (Nat.le_of_eq g2.symm)
        replace V_tc := V_tc.ext E2
        replace A1 := A1.ext E2
        replace F_value_b1 := F_value_b1.ext E2
        replace F_coder_b1 := F_coder_b1.ext E2
        have S_b1' : Safe Z EL vm0 h2 b1 := Safe.ext E2 A0.1 S_b1
        have S_b2' : Safe Z EL vm0 h2 b2 := Safe.ext E2 A0.1 S_b2
        have A' : CHr Z EL s.vm s.heap vm0 h2 := A0.trans (CHr.ext E2 A0.1)
        replace S_b1 := S_b1'
        replace S_b2 := S_b2'
        replace A0 := A'
        replace hk0 := Nat.le_trans hk0 E2.1
        replace O0 : Ext Z.heap h2 := ext_trans O0 E2
        replace K0 : Keep h0 h2 [] := K0.ext E2
        have V_b2 : Arv Z h2 b2 k2 .char (2 : Int32) [(.int 0), (.int 0)] (.int 0) := (Arv.new A2 (by decide)).pad (pad_rep [] (.int 0) 2)
        refine OEndsH.st (S' := T2.setTop (mkF m 53 #[vr tc, vi ln] [(.int 0), (.ref tc), (.int 0), (.ref b2), (.ref b2), (.ref b1), (.ref b1)])) (fun _ k => ?_) ?_
        · refine XS.dup X2.here hx rfl (hb hby d_4_49) rfl rfl ?_
          refine XS.iconst X2.here hx rfl (hb hby d_4_50) ?_
          refine XS.aloadN X2.here hx rfl (hb hby d_4_51) rfl rfl ?_
          refine XS.iconst X2.here hx rfl (hb hby d_4_52) ?_
          exact k
        obtain ⟨cl_tc_3, Ar_tc_3, q_tc_3, S_tc_3, N_tc_3, H_tc_3, G_tc_3⟩ := id V_tc
        refine OEndsH.st (S' := T2.setTop (mkF m 54 #[vr tc, vi ln] [(.int x0), (.int 0), (.ref b2), (.ref b2), (.ref b1), (.ref b1)])) (X2.caload hx (j := (0 : Int32)) (v := (.int x0)) (by rw [e2]; exact Ar_tc_3.1) (State.isArrayOf_alike hZ.alike Ar_tc_3.2.1) Ar_tc_3.2.2 (inb_of S_tc_3 ⟨by decide, by decide⟩) (H_tc_3.at (inb_of S_tc_3 ⟨by decide, by decide⟩) rfl) (g := (mkF m 53 #[vr tc, vi ln] [(.int 0), (.ref tc), (.int 0), (.ref b2), (.ref b2), (.ref b1), (.ref b1)])) rfl rfl (hb hby d_4_53)) ?_
        obtain ⟨cl_b2_4, Ar_b2_4, q_b2_4, S_b2_4, N_b2_4, H_b2_4, G_b2_4⟩ := V_b2
        obtain ⟨T4, h4, X4, e4, W4, st4⟩ := stC X2 hx hZ e2 Ar_b2_4 (j := (0 : Int32)) (inb_of S_b2_4 ⟨by decide, by decide⟩) (g := (mkF m 54 #[vr tc, vi ln] [(.int x0), (.int 0), (.ref b2), (.ref b2), (.ref b1), (.ref b1)])) rfl rfl (hb hby d_4_54)
        have V_b2_4 : Arv Z h4 b2 k2 .char (2 : Int32) [(.int (nar .char x0)), (.int 0)] (.int 0) := Arv.set Ar_b2_4 q_b2_4 S_b2_4 N_b2_4 H_b2_4 G_b2_4 (fits_nar_char _) W4 0 rfl (Nat.le_of_ble_eq_true rfl)
        refine OEndsH.st st4 ?_
        replace V_tc := V_tc.other W4 ne_tc_b2
        replace A1 := A1.wr W4
        replace F_value_b1 := F_value_b1.other W4 (Or.inl ne_b1_b2)
        replace F_coder_b1 := F_coder_b1.other W4 (Or.inl ne_b1_b2)
        have S_b1' : Safe Z EL vm0 h4 b1 := Safe.wr W4 S_b2 A0.1 S_b1
        have S_b2' : Safe Z EL vm0 h4 b2 := Safe.wr W4 S_b2 A0.1 S_b2
        have A' : CHr Z EL s.vm s.heap vm0 h4 := A0.trans (CHr.wr W4 S_b2 A0.1)
        replace S_b1 := S_b1'
        replace S_b2 := S_b2'
        replace A0 := A'
        replace hk0 := Nat.le_trans hk0 (Keep.of_wr W4).1
        replace O0 : Ext Z.heap h4 := ext_wr O0 W4 ge_b2
        replace N0 := Fr.snoc X4 N0 ge_b2
        replace K0 : Keep h0 h4 [] := K0.wr W4 (Or.inr sz_b2)
        refine OEndsH.st (S' := T4.setTop (mkF m 59 #[vr tc, vi ln] [(.int 1), (.ref tc), (.int 1), (.ref b2), (.ref b2), (.ref b1), (.ref b1)])) (fun _ k => ?_) ?_
        · refine XS.dup X4.here hx rfl (hb hby d_4_55) rfl rfl ?_
          refine XS.iconst X4.here hx rfl (hb hby d_4_56) ?_
          refine XS.aloadN X4.here hx rfl (hb hby d_4_57) rfl rfl ?_
          refine XS.iconst X4.here hx rfl (hb hby d_4_58) ?_
          exact k
        obtain ⟨cl_tc_5, Ar_tc_5, q_tc_5, S_tc_5, N_tc_5, H_tc_5, G_tc_5⟩ := id V_tc
        refine OEndsH.st (S' := T4.setTop (mkF m 60 #[vr tc, vi ln] [(.int x1), (.int 1), (.ref b2), (.ref b2), (.ref b1), (.ref b1)])) (X4.caload hx (j := (1 : Int32)) (v := (.int x1)) (by rw [e4]; exact Ar_tc_5.1) (State.isArrayOf_alike hZ.alike Ar_tc_5.2.1) Ar_tc_5.2.2 (inb_of S_tc_5 ⟨by decide, by decide⟩) (H_tc_5.at (inb_of S_tc_5 ⟨by decide, by decide⟩) rfl) (g := (mkF m 59 #[vr tc, vi ln] [(.int 1), (.ref tc), (.int 1), (.ref b2), (.ref b2), (.ref b1), (.ref b1)])) rfl rfl (hb hby d_4_59)) ?_
        obtain ⟨cl_b2_6, Ar_b2_6, q_b2_6, S_b2_6, N_b2_6, H_b2_6, G_b2_6⟩ := V_b2_4
        obtain ⟨T6, h6, X6, e6, W6, st6⟩ := stC X4 hx hZ e4 Ar_b2_6 (j := (1 : Int32)) (inb_of S_b2_6 ⟨by decide, by decide⟩) (g := (mkF m 60 #[vr tc, vi ln] [(.int x1), (.int 1), (.ref b2), (.ref b2), (.ref b1), (.ref b1)])) rfl rfl (hb hby d_4_60)
        have V_b2_6 : Arv Z h6 b2 k2 .char (2 : Int32) [(.int (nar .char x0)), (.int (nar .char x1))] (.int 0) := Arv.set Ar_b2_6 q_b2_6 S_b2_6 N_b2_6 H_b2_6 G_b2_6 (fits_nar_char _) W6 1 rfl (Nat.le_of_ble_eq_true rfl)
        refine OEndsH.st st6 ?_
        replace V_tc := V_tc.other W6 ne_tc_b2
        replace A1 := A1.wr W6
        replace F_value_b1 := F_value_b1.other W6 (Or.inl ne_b1_b2)
        replace F_coder_b1 := F_coder_b1.other W6 (Or.inl ne_b1_b2)
        have S_b1' : Safe Z EL vm0 h6 b1 := Safe.wr W6 S_b2 A0.1 S_b1
        have S_b2' : Safe Z EL vm0 h6 b2 := Safe.wr W6 S_b2 A0.1 S_b2
        have A' : CHr Z EL s.vm s.heap vm0 h6 := A0.trans (CHr.wr W6 S_b2 A0.1)
        replace S_b1 := S_b1'
        replace S_b2 := S_b2'
        replace A0 := A'
        replace hk0 := Nat.le_trans hk0 (Keep.of_wr W6).1
        replace O0 : Ext Z.heap h6 := ext_wr O0 W6 ge_b2
        replace N0 := Fr.snoc X6 N0 ge_b2
        replace K0 : Keep h0 h6 [] := K0.wr W6 (Or.inr sz_b2)
        simp only [nar_char (x := x0) hx0, nar_char (x := x1) hx1] at V_b2_6
        have hp7 : ∀ c ∈ ([x0, x1] : List Int32), ¬ c < 0 ∧ ¬ (255 : Int32) < c := by
          intro c hc; simp only [List.mem_cons, List.not_mem_nil, or_false] at hc
          rcases hc with rfl | rfl
          · exact hx0
          · exact hx1
        obtain ⟨_, T8, h8, L8, X8, e8, hQ8, st8⟩ := specC X6 hx hZ rfl hown (wq hw 11 rfl) (wq hw 12 rfl) (wq hw 13 rfl) (by decide) (kc := 1) (ks := 2) (SB.of (Q := StrChars.Road.QV Z b1 (2 : Int32) (([x0, x1] : List Int32).map (fun c => c.toInt8.toInt32)) h6 Z.heap.size) (StrChars.Road.backV (W := 1) hZ hws (kI := 4) (wq hw 9 rfl) (cs := ([x0, x1] : List Int32)) (bs := (([x0, x1] : List Int32).map (fun c => c.toInt8.toInt32))) (n := 2) ge_b1 O0.1 A1 F_value_b1 F_coder_b1 V_b2_6 (S_CS.ext O0) hcz rfl rfl (by decide) (by decide) hp7 rfl (by decide) (by decide))) e6 (a := b1) (g := (mkF m 61 #[vr tc, vi ln] [(.ref b2), (.ref b1), (.ref b1)])) rfl (by rw [hml]; rfl) (argsL := [(.ref b2)]) (rest := [(.ref b1)]) (lenOf pd_2 rfl) rfl (by show 2 * 0 + _ ≤ _; exact Nat.le_of_eq rfl) (hb hby d_4_61) (by decide) (by decide)
        obtain ⟨rfl, Nq8, Kq8, Eq8, Fc8, t8, kb8, gq8, szq8, nq8, Fv8, V8⟩ := hQ8
        refine OEndsH.st st8 ?_
        replace N0 := Fr.app N0 Nq8
        have ne_b1_t8 : b1 ≠ t8 := Nat.ne_of_lt (Nat.lt_of_lt_of_le A1.lt szq8)
        have ne_b2_t8 : b2 ≠ t8 := Nat.ne_of_lt (Nat.lt_of_lt_of_le V_b2_6.lt szq8)
        have ne_tc_t8 : tc ≠ t8 := Nat.ne_of_lt (Nat.lt_of_lt_of_le V_tc.lt szq8)
        have ge_t8 : Z.heap.size ≤ t8 := Nat.le_trans O0.1 szq8
        have S_t8 : Safe Z EL vm0 h6 t8 := Safe.new szq8
        have sz_t8 : h0.size ≤ t8 := Nat.le_trans K0.1 szq8
        replace V_tc := V_tc.keep Kq8 (ninS ne_tc_b1 nin0)
        replace A1 := A1.keep Kq8
        replace V_b2_6 := V_b2_6.keep Kq8 (ninS (Ne.symm ne_b1_b2) nin0)
        have S_b1' : Safe Z EL vm0 h8 b1 := Safe.keep Kq8 (sfS S_b1 sf0) A0.1 S_b1
        have S_b2' : Safe Z EL vm0 h8 b2 := Safe.keep Kq8 (sfS S_b1 sf0) A0.1 S_b2
        have S_t8' : Safe Z EL vm0 h8 t8 := Safe.keep Kq8 (sfS S_b1 sf0) A0.1 S_t8
        have A' : CHr Z EL s.vm s.heap vm0 h8 := A0.trans (CHr.keep Kq8 (sfS S_b1 sf0) A0.1)
        replace S_b1 := S_b1'
        replace S_b2 := S_b2'
        replace S_t8 := S_t8'
        replace A0 := A'
        replace hk0 := Nat.le_trans hk0 Kq8.1
        replace O0 : Ext Z.heap h8 := ext_keep O0 Kq8 (allS ge_b1 all0)
        replace K0 : Keep h0 h8 [] := K0.trans Kq8 (allS (Or.inr sz_b1) all0)
        replace V8 : Arv Z h8 t8 kb8 .byte (Int32.ofNat 2) [(.int (x0).toInt8.toInt32), (.int (x1).toInt8.toInt32)] (.int 0) := V8
        clear V_b2_6
        exact OEndsH.ret X8 hx hZ hEL e8 hS0 hk0 A0 hret hlk rfl (Or.inr (Or.inr (Or.inr (Or.inr ⟨rfl, rfl, rfl⟩)))) (hb hby d_4_64) (by decide) (by decide) ⟨b1, 2, rfl, N0, K0, (by decide), q2, A1, Fc8, t8, _, Fv8, V8⟩
      · refine OEndsH.st (S' := T0.setTop (mkF m 67 #[vr tc, vi ln] [(.int 3), (.int ln)])) (fun _ k => ?_) ?_
        · refine XS.icmpYes X0.here hx rfl (pc0 := 39) (pc' := 65) rfl (hb hby d_4_39) rfl (feq q2).2 (by decide) (by decide) ?_
          refine XS.iloadN X0.here hx rfl (hb hby d_4_65) rfl ?_
          refine XS.iconst X0.here hx rfl (hb hby d_4_66) ?_
          exact k
        rcases Classical.em (ln = (3 : Int32)) with q3 | q3
        · refine OEndsH.st (S' := T0.setTop (mkF m 70 #[vr tc, vi ln] [])) (fun _ k => ?_) ?_
          · refine XS.icmpNo X0.here hx rfl (hb hby d_4_67) rfl (teq q3).2 ?_
            exact k
          obtain ⟨T1, h1, X1, e1, E1, A1, D1, U1, st1⟩ := newO X0 hx hZ hown (wq hw 8 rfl) (wq hw 9 rfl) (wq hw 10 rfl) e0 (g := (mkF m 70 #[vr tc, vi ln] [])) rfl (hb hby d_4_70) (by decide) (by decide)
          obtain ⟨b1, g1⟩ : ∃ z, z = h0.size := ⟨_, rfl⟩
          rw [← g1] at A1 D1 U1 st1
          refine OEndsH.st st1 ?_
          have ne_tc_b1 : tc ≠ b1 := Nat.ne_of_lt (Nat.lt_of_lt_of_le V_tc.lt (Nat.le_of_eq g1.symm))
          have ge_b1 : Z.heap.size ≤ b1 := Nat.le_trans O0.1 (Nat.le_of_eq g1.symm)
          have sz_b1 : h0.size ≤ b1 := Nat.le_trans K0.1 (Nat.le_of_eq g1.symm)
          have S_b1 : Safe Z EL vm0 h0 b1 := Safe.new (Nat.le_of_eq g1.symm)
          replace V_tc := V_tc.ext E1
          have S_b1' : Safe Z EL vm0 h1 b1 := Safe.ext E1 A0.1 S_b1
          have A' : CHr Z EL s.vm s.heap vm0 h1 := A0.trans (CHr.ext E1 A0.1)
          replace S_b1 := S_b1'
          replace A0 := A'
          replace hk0 := Nat.le_trans hk0 E1.1
          replace O0 : Ext Z.heap h1 := ext_trans O0 E1
          replace K0 : Keep h0 h1 [] := K0.ext E1
          have F_value_b1 : Fld Z h1 b1 "java/lang/String" "value" "[B" .null := D1 (Or.inr (wq hw 23 rfl)) (ty := (.array .byte)) (by decide)
          have F_coder_b1 : Fld Z h1 b1 "java/lang/String" "coder" "B" (.int 0) := D1 (Or.inr (wq hw 24 rfl)) (ty := .byte) (by decide)
          refine OEndsH.st (S' := T1.setTop (mkF m 75 #[vr tc, vi ln] [(.int 3), (.ref b1), (.ref b1)])) (fun _ k => ?_) ?_
          · refine XS.dup X1.here hx rfl (hb hby d_4_73) rfl rfl ?_
            refine XS.iconst X1.here hx rfl (hb hby d_4_74) ?_
            exact k
          obtain ⟨T2, h2, k2, X2, e2, E2, A2, st2⟩ := newP X1 hx hZ (wq hw 0 rfl) e1 (g := (mkF m 75 #[vr tc, vi ln] [(.int 3), (.ref b1), (.ref b1)])) rfl (hb hby d_4_75) rfl (by decide) (cap := 3) (by decide) (by decide) (by decide) (by decide)
          obtain ⟨b2, g2⟩ : ∃ z, z = h1.size := ⟨_, rfl⟩
          rw [← g2] at A2 st2
          refine OEndsH.st st2 ?_
          have ne_b1_b2 : b1 ≠ b2 := Nat.ne_of_lt (Nat.lt_of_lt_of_le A1.lt (Nat.le_of_eq g2.symm))
          have ne_tc_b2 : tc ≠ b2 := Nat.ne_of_lt (Nat.lt_of_lt_of_le V_tc.lt (Nat.le_of_eq g2.symm))
          have ge_b2 : Z.heap.size ≤ b2 := Nat.le_trans O0.1 (Nat.le_of_eq g2.symm)
          have sz_b2 : h0.size ≤ b2 := Nat.le_trans K0.1 (Nat.le_of_eq g2.symm)
          have S_b2 : Safe Z EL vm0 h1 b2 := Safe.new (Nat.le_of_eq g2.symm)
          replace V_tc := V_tc.ext E2
          replace A1 := A1.ext E2
          replace F_value_b1 := F_value_b1.ext E2
          replace F_coder_b1 := F_coder_b1.ext E2
          have S_b1' : Safe Z EL vm0 h2 b1 := Safe.ext E2 A0.1 S_b1
          have S_b2' : Safe Z EL vm0 h2 b2 := Safe.ext E2 A0.1 S_b2
          have A' : CHr Z EL s.vm s.heap vm0 h2 := A0.trans (CHr.ext E2 A0.1)
          replace S_b1 := S_b1'
          replace S_b2 := S_b2'
          replace A0 := A'
          replace hk0 := Nat.le_trans hk0 E2.1
          replace O0 : Ext Z.heap h2 := ext_trans O0 E2
          replace K0 : Keep h0 h2 [] := K0.ext E2
          have V_b2 : Arv Z h2 b2 k2 .char (3 : Int32) [(.int 0), (.int 0), (.int 0)] (.int 0) := (Arv.new A2 (by decide)).pad (pad_rep [] (.int 0) 3)
          refine OEndsH.st (S' := T2.setTop (mkF m 81 #[vr tc, vi ln] [(.int 0), (.ref tc), (.int 0), (.ref b2), (.ref b2), (.ref b1), (.ref b1)])) (fun _ k => ?_) ?_
          · refine XS.dup X2.here hx rfl (hb hby d_4_77) rfl rfl ?_
            refine XS.iconst X2.here hx rfl (hb hby d_4_78) ?_
            refine XS.aloadN X2.here hx rfl (hb hby d_4_79) rfl rfl ?_
            refine XS.iconst X2.here hx rfl (hb hby d_4_80) ?_
            exact k
          obtain ⟨cl_tc_3, Ar_tc_3, q_tc_3, S_tc_3, N_tc_3, H_tc_3, G_tc_3⟩ := id V_tc
          refine OEndsH.st (S' := T2.setTop (mkF m 82 #[vr tc, vi ln] [(.int x0), (.int 0), (.ref b2), (.ref b2), (.ref b1), (.ref b1)])) (X2.caload hx (j := (0 : Int32)) (v := (.int x0)) (by rw [e2]; exact Ar_tc_3.1) (State.isArrayOf_alike hZ.alike Ar_tc_3.2.1) Ar_tc_3.2.2 (inb_of S_tc_3 ⟨by decide, by decide⟩) (H_tc_3.at (inb_of S_tc_3 ⟨by decide, by decide⟩) rfl) (g := (mkF m 81 #[vr tc, vi ln] [(.int 0), (.ref tc), (.int 0), (.ref b2), (.ref b2), (.ref b1), (.ref b1)])) rfl rfl (hb hby d_4_81)) ?_
          obtain ⟨cl_b2_4, Ar_b2_4, q_b2_4, S_b2_4, N_b2_4, H_b2_4, G_b2_4⟩ := V_b2
          obtain ⟨T4, h4, X4, e4, W4, st4⟩ := stC X2 hx hZ e2 Ar_b2_4 (j := (0 : Int32)) (inb_of S_b2_4 ⟨by decide, by decide⟩) (g := (mkF m 82 #[vr tc, vi ln] [(.int x0), (.int 0), (.ref b2), (.ref b2), (.ref b1), (.ref b1)])) rfl rfl (hb hby d_4_82)
          have V_b2_4 : Arv Z h4 b2 k2 .char (3 : Int32) [(.int (nar .char x0)), (.int 0), (.int 0)] (.int 0) := Arv.set Ar_b2_4 q_b2_4 S_b2_4 N_b2_4 H_b2_4 G_b2_4 (fits_nar_char _) W4 0 rfl (Nat.le_of_ble_eq_true rfl)
          refine OEndsH.st st4 ?_
          replace V_tc := V_tc.other W4 ne_tc_b2
          replace A1 := A1.wr W4
          replace F_value_b1 := F_value_b1.other W4 (Or.inl ne_b1_b2)
          replace F_coder_b1 := F_coder_b1.other W4 (Or.inl ne_b1_b2)
          have S_b1' : Safe Z EL vm0 h4 b1 := Safe.wr W4 S_b2 A0.1 S_b1
          have S_b2' : Safe Z EL vm0 h4 b2 := Safe.wr W4 S_b2 A0.1 S_b2
          have A' : CHr Z EL s.vm s.heap vm0 h4 := A0.trans (CHr.wr W4 S_b2 A0.1)
          replace S_b1 := S_b1'
          replace S_b2 := S_b2'
          replace A0 := A'
          replace hk0 := Nat.le_trans hk0 (Keep.of_wr W4).1
          replace O0 : Ext Z.heap h4 := ext_wr O0 W4 ge_b2
          replace N0 := Fr.snoc X4 N0 ge_b2
          replace K0 : Keep h0 h4 [] := K0.wr W4 (Or.inr sz_b2)
          refine OEndsH.st (S' := T4.setTop (mkF m 87 #[vr tc, vi ln] [(.int 1), (.ref tc), (.int 1), (.ref b2), (.ref b2), (.ref b1), (.ref b1)])) (fun _ k => ?_) ?_
          · refine XS.dup X4.here hx rfl (hb hby d_4_83) rfl rfl ?_
            refine XS.iconst X4.here hx rfl (hb hby d_4_84) ?_
            refine XS.aloadN X4.here hx rfl (hb hby d_4_85) rfl rfl ?_
            refine XS.iconst X4.here hx rfl (hb hby d_4_86) ?_
            exact k
          obtain ⟨cl_tc_5, Ar_tc_5, q_tc_5, S_tc_5, N_tc_5, H_tc_5, G_tc_5⟩ := id V_tc
          refine OEndsH.st (S' := T4.setTop (mkF m 88 #[vr tc, vi ln] [(.int x1), (.int 1), (.ref b2), (.ref b2), (.ref b1), (.ref b1)])) (X4.caload hx (j := (1 : Int32)) (v := (.int x1)) (by rw [e4]; exact Ar_tc_5.1) (State.isArrayOf_alike hZ.alike Ar_tc_5.2.1) Ar_tc_5.2.2 (inb_of S_tc_5 ⟨by decide, by decide⟩) (H_tc_5.at (inb_of S_tc_5 ⟨by decide, by decide⟩) rfl) (g := (mkF m 87 #[vr tc, vi ln] [(.int 1), (.ref tc), (.int 1), (.ref b2), (.ref b2), (.ref b1), (.ref b1)])) rfl rfl (hb hby d_4_87)) ?_
          obtain ⟨cl_b2_6, Ar_b2_6, q_b2_6, S_b2_6, N_b2_6, H_b2_6, G_b2_6⟩ := V_b2_4
          obtain ⟨T6, h6, X6, e6, W6, st6⟩ := stC X4 hx hZ e4 Ar_b2_6 (j := (1 : Int32)) (inb_of S_b2_6 ⟨by decide, by decide⟩) (g := (mkF m 88 #[vr tc, vi ln] [(.int x1), (.int 1), (.ref b2), (.ref b2), (.ref b1), (.ref b1)])) rfl rfl (hb hby d_4_88)
          have V_b2_6 : Arv Z h6 b2 k2 .char (3 : Int32) [(.int (nar .char x0)), (.int (nar .char x1)), (.int 0)] (.int 0) := Arv.set Ar_b2_6 q_b2_6 S_b2_6 N_b2_6 H_b2_6 G_b2_6 (fits_nar_char _) W6 1 rfl (Nat.le_of_ble_eq_true rfl)
          refine OEndsH.st st6 ?_
          replace V_tc := V_tc.other W6 ne_tc_b2
          replace A1 := A1.wr W6
          replace F_value_b1 := F_value_b1.other W6 (Or.inl ne_b1_b2)
          replace F_coder_b1 := F_coder_b1.other W6 (Or.inl ne_b1_b2)
          have S_b1' : Safe Z EL vm0 h6 b1 := Safe.wr W6 S_b2 A0.1 S_b1
          have S_b2' : Safe Z EL vm0 h6 b2 := Safe.wr W6 S_b2 A0.1 S_b2
          have A' : CHr Z EL s.vm s.heap vm0 h6 := A0.trans (CHr.wr W6 S_b2 A0.1)
          replace S_b1 := S_b1'
          replace S_b2 := S_b2'
          replace A0 := A'
          replace hk0 := Nat.le_trans hk0 (Keep.of_wr W6).1
          replace O0 : Ext Z.heap h6 := ext_wr O0 W6 ge_b2
          replace N0 := Fr.snoc X6 N0 ge_b2
          replace K0 : Keep h0 h6 [] := K0.wr W6 (Or.inr sz_b2)
          refine OEndsH.st (S' := T6.setTop (mkF m 93 #[vr tc, vi ln] [(.int 2), (.ref tc), (.int 2), (.ref b2), (.ref b2), (.ref b1), (.ref b1)])) (fun _ k => ?_) ?_
          · refine XS.dup X6.here hx rfl (hb hby d_4_89) rfl rfl ?_
            refine XS.iconst X6.here hx rfl (hb hby d_4_90) ?_
            refine XS.aloadN X6.here hx rfl (hb hby d_4_91) rfl rfl ?_
            refine XS.iconst X6.here hx rfl (hb hby d_4_92) ?_
            exact k
          obtain ⟨cl_tc_7, Ar_tc_7, q_tc_7, S_tc_7, N_tc_7, H_tc_7, G_tc_7⟩ := id V_tc
          refine OEndsH.st (S' := T6.setTop (mkF m 94 #[vr tc, vi ln] [(.int x2), (.int 2), (.ref b2), (.ref b2), (.ref b1), (.ref b1)])) (X6.caload hx (j := (2 : Int32)) (v := (.int x2)) (by rw [e6]; exact Ar_tc_7.1) (State.isArrayOf_alike hZ.alike Ar_tc_7.2.1) Ar_tc_7.2.2 (inb_of S_tc_7 ⟨by decide, by decide⟩) (H_tc_7.at (inb_of S_tc_7 ⟨by decide, by decide⟩) rfl) (g := (mkF m 93 #[vr tc, vi ln] [(.int 2), (.ref tc), (.int 2), (.ref b2), (.ref b2), (.ref b1), (.ref b1)])) rfl rfl (hb hby d_4_93)) ?_
          obtain ⟨cl_b2_8, Ar_b2_8, q_b2_8, S_b2_8, N_b2_8, H_b2_8, G_b2_8⟩ := V_b2_6
          obtain ⟨T8, h8, X8, e8, W8, st8⟩ := stC X6 hx hZ e6 Ar_b2_8 (j := (2 : Int32)) (inb_of S_b2_8 ⟨by decide, by decide⟩) (g := (mkF m 94 #[vr tc, vi ln] [(.int x2), (.int 2), (.ref b2), (.ref b2), (.ref b1), (.ref b1)])) rfl rfl (hb hby d_4_94)
          have V_b2_8 : Arv Z h8 b2 k2 .char (3 : Int32) [(.int (nar .char x0)), (.int (nar .char x1)), (.int (nar .char x2))] (.int 0) := Arv.set Ar_b2_8 q_b2_8 S_b2_8 N_b2_8 H_b2_8 G_b2_8 (fits_nar_char _) W8 2 rfl (Nat.le_of_ble_eq_true rfl)
          refine OEndsH.st st8 ?_
          replace V_tc := V_tc.other W8 ne_tc_b2
          replace A1 := A1.wr W8
          replace F_value_b1 := F_value_b1.other W8 (Or.inl ne_b1_b2)
          replace F_coder_b1 := F_coder_b1.other W8 (Or.inl ne_b1_b2)
          have S_b1' : Safe Z EL vm0 h8 b1 := Safe.wr W8 S_b2 A0.1 S_b1
          have S_b2' : Safe Z EL vm0 h8 b2 := Safe.wr W8 S_b2 A0.1 S_b2
          have A' : CHr Z EL s.vm s.heap vm0 h8 := A0.trans (CHr.wr W8 S_b2 A0.1)
          replace S_b1 := S_b1'
          replace S_b2 := S_b2'
          replace A0 := A'
          replace hk0 := Nat.le_trans hk0 (Keep.of_wr W8).1
          replace O0 : Ext Z.heap h8 := ext_wr O0 W8 ge_b2
          replace N0 := Fr.snoc X8 N0 ge_b2
          replace K0 : Keep h0 h8 [] := K0.wr W8 (Or.inr sz_b2)
          simp only [nar_char (x := x0) hx0, nar_char (x := x1) hx1, nar_char (x := x2) hx2] at V_b2_8
          have hp9 : ∀ c ∈ ([x0, x1, x2] : List Int32), ¬ c < 0 ∧ ¬ (255 : Int32) < c := by
            intro c hc; simp only [List.mem_cons, List.not_mem_nil, or_false] at hc
            rcases hc with rfl | rfl | rfl
            · exact hx0
            · exact hx1
            · exact hx2
          obtain ⟨_, T10, h10, L10, X10, e10, hQ10, st10⟩ := specC X8 hx hZ rfl hown (wq hw 11 rfl) (wq hw 12 rfl) (wq hw 13 rfl) (by decide) (kc := 1) (ks := 3) (SB.of (Q := StrChars.Road.QV Z b1 (3 : Int32) (([x0, x1, x2] : List Int32).map (fun c => c.toInt8.toInt32)) h8 Z.heap.size) (StrChars.Road.backV (W := 1) hZ hws (kI := 4) (wq hw 9 rfl) (cs := ([x0, x1, x2] : List Int32)) (bs := (([x0, x1, x2] : List Int32).map (fun c => c.toInt8.toInt32))) (n := 3) ge_b1 O0.1 A1 F_value_b1 F_coder_b1 V_b2_8 (S_CS.ext O0) hcz rfl rfl (by decide) (by decide) hp9 rfl (by decide) (by decide))) e8 (a := b1) (g := (mkF m 95 #[vr tc, vi ln] [(.ref b2), (.ref b1), (.ref b1)])) rfl (by rw [hml]; rfl) (argsL := [(.ref b2)]) (rest := [(.ref b1)]) (lenOf pd_2 rfl) rfl (by show 2 * 0 + _ ≤ _; exact Nat.le_of_eq rfl) (hb hby d_4_95) (by decide) (by decide)
          obtain ⟨rfl, Nq10, Kq10, Eq10, Fc10, t10, kb10, gq10, szq10, nq10, Fv10, V10⟩ := hQ10
          refine OEndsH.st st10 ?_
          replace N0 := Fr.app N0 Nq10
          have ne_b1_t10 : b1 ≠ t10 := Nat.ne_of_lt (Nat.lt_of_lt_of_le A1.lt szq10)
          have ne_b2_t10 : b2 ≠ t10 := Nat.ne_of_lt (Nat.lt_of_lt_of_le V_b2_8.lt szq10)
          have ne_tc_t10 : tc ≠ t10 := Nat.ne_of_lt (Nat.lt_of_lt_of_le V_tc.lt szq10)
          have ge_t10 : Z.heap.size ≤ t10 := Nat.le_trans O0.1 szq10
          have S_t10 : Safe Z EL vm0 h8 t10 := Safe.new szq10
          have sz_t10 : h0.size ≤ t10 := Nat.le_trans K0.1 szq10
          replace V_tc := V_tc.keep Kq10 (ninS ne_tc_b1 nin0)
          replace A1 := A1.keep Kq10
          replace V_b2_8 := V_b2_8.keep Kq10 (ninS (Ne.symm ne_b1_b2) nin0)
          have S_b1' : Safe Z EL vm0 h10 b1 := Safe.keep Kq10 (sfS S_b1 sf0) A0.1 S_b1
          have S_b2' : Safe Z EL vm0 h10 b2 := Safe.keep Kq10 (sfS S_b1 sf0) A0.1 S_b2
          have S_t10' : Safe Z EL vm0 h10 t10 := Safe.keep Kq10 (sfS S_b1 sf0) A0.1 S_t10
          have A' : CHr Z EL s.vm s.heap vm0 h10 := A0.trans (CHr.keep Kq10 (sfS S_b1 sf0) A0.1)
          replace S_b1 := S_b1'
          replace S_b2 := S_b2'
          replace S_t10 := S_t10'
          replace A0 := A'
          replace hk0 := Nat.le_trans hk0 Kq10.1
          replace O0 : Ext Z.heap h10 := ext_keep O0 Kq10 (allS ge_b1 all0)
          replace K0 : Keep h0 h10 [] := K0.trans Kq10 (allS (Or.inr sz_b1) all0)
          replace V10 : Arv Z h10 t10 kb10 .byte (Int32.ofNat 3) [(.int (x0).toInt8.toInt32), (.int (x1).toInt8.toInt32), (.int (x2).toInt8.toInt32)] (.int 0) := V10
          clear V_b2_8
          exact OEndsH.ret X10 hx hZ hEL e10 hS0 hk0 A0 hret hlk rfl (Or.inr (Or.inr (Or.inr (Or.inr ⟨rfl, rfl, rfl⟩)))) (hb hby d_4_98) (by decide) (by decide) ⟨b1, 3, rfl, N0, K0, (by decide), q3, A1, Fc10, t10, _, Fv10, V10⟩
        · refine OEndsH.st (S' := T0.setTop (mkF m 101 #[vr tc, vi ln] [(.int 4), (.int ln)])) (fun _ k => ?_) ?_
          · refine XS.icmpYes X0.here hx rfl (pc0 := 67) (pc' := 99) rfl (hb hby d_4_67) rfl (feq q3).2 (by decide) (by decide) ?_
            refine XS.iloadN X0.here hx rfl (hb hby d_4_99) rfl ?_
            refine XS.iconst X0.here hx rfl (hb hby d_4_100) ?_
            exact k
          rcases Classical.em (ln = (4 : Int32)) with q4 | q4
          · refine OEndsH.st (S' := T0.setTop (mkF m 104 #[vr tc, vi ln] [])) (fun _ k => ?_) ?_
            · refine XS.icmpNo X0.here hx rfl (hb hby d_4_101) rfl (teq q4).2 ?_
              exact k
            obtain ⟨T1, h1, X1, e1, E1, A1, D1, U1, st1⟩ := newO X0 hx hZ hown (wq hw 8 rfl) (wq hw 9 rfl) (wq hw 10 rfl) e0 (g := (mkF m 104 #[vr tc, vi ln] [])) rfl (hb hby d_4_104) (by decide) (by decide)
            obtain ⟨b1, g1⟩ : ∃ z, z = h0.size := ⟨_, rfl⟩
            rw [← g1] at A1 D1 U1 st1
            refine OEndsH.st st1 ?_
            have ne_tc_b1 : tc ≠ b1 := Nat.ne_of_lt (Nat.lt_of_lt_of_le V_tc.lt (Nat.le_of_eq g1.symm))
            have ge_b1 : Z.heap.size ≤ b1 := Nat.le_trans O0.1 (Nat.le_of_eq g1.symm)
            have sz_b1 : h0.size ≤ b1 := Nat.le_trans K0.1 (Nat.le_of_eq g1.symm)
            have S_b1 : Safe Z EL vm0 h0 b1 := Safe.new (Nat.le_of_eq g1.symm)
            replace V_tc := V_tc.ext E1
            have S_b1' : Safe Z EL vm0 h1 b1 := Safe.ext E1 A0.1 S_b1
            have A' : CHr Z EL s.vm s.heap vm0 h1 := A0.trans (CHr.ext E1 A0.1)
            replace S_b1 := S_b1'
            replace A0 := A'
            replace hk0 := Nat.le_trans hk0 E1.1
            replace O0 : Ext Z.heap h1 := ext_trans O0 E1
            replace K0 : Keep h0 h1 [] := K0.ext E1
            have F_value_b1 : Fld Z h1 b1 "java/lang/String" "value" "[B" .null := D1 (Or.inr (wq hw 23 rfl)) (ty := (.array .byte)) (by decide)
            have F_coder_b1 : Fld Z h1 b1 "java/lang/String" "coder" "B" (.int 0) := D1 (Or.inr (wq hw 24 rfl)) (ty := .byte) (by decide)
            refine OEndsH.st (S' := T1.setTop (mkF m 109 #[vr tc, vi ln] [(.int 4), (.ref b1), (.ref b1)])) (fun _ k => ?_) ?_
            · refine XS.dup X1.here hx rfl (hb hby d_4_107) rfl rfl ?_
              refine XS.iconst X1.here hx rfl (hb hby d_4_108) ?_
              exact k
            obtain ⟨T2, h2, k2, X2, e2, E2, A2, st2⟩ := newP X1 hx hZ (wq hw 0 rfl) e1 (g := (mkF m 109 #[vr tc, vi ln] [(.int 4), (.ref b1), (.ref b1)])) rfl (hb hby d_4_109) rfl (by decide) (cap := 4) (by decide) (by decide) (by decide) (by decide)
            obtain ⟨b2, g2⟩ : ∃ z, z = h1.size := ⟨_, rfl⟩
            rw [← g2] at A2 st2
            refine OEndsH.st st2 ?_
            have ne_b1_b2 : b1 ≠ b2 := Nat.ne_of_lt (Nat.lt_of_lt_of_le A1.lt (Nat.le_of_eq g2.symm))
            have ne_tc_b2 : tc ≠ b2 := Nat.ne_of_lt (Nat.lt_of_lt_of_le V_tc.lt (Nat.le_of_eq g2.symm))
            have ge_b2 : Z.heap.size ≤ b2 := Nat.le_trans O0.1 (Nat.le_of_eq g2.symm)
            have sz_b2 : h0.size ≤ b2 := Nat.le_trans K0.1 (Nat.le_of_eq g2.symm)
            have S_b2 : Safe Z EL vm0 h1 b2 := Safe.new (Nat.le_of_eq g2.symm)
            replace V_tc := V_tc.ext E2
            replace A1 := A1.ext E2
            replace F_value_b1 := F_value_b1.ext E2
            replace F_coder_b1 := F_coder_b1.ext E2
            have S_b1' : Safe Z EL vm0 h2 b1 := Safe.ext E2 A0.1 S_b1
            have S_b2' : Safe Z EL vm0 h2 b2 := Safe.ext E2 A0.1 S_b2
            have A' : CHr Z EL s.vm s.heap vm0 h2 := A0.trans (CHr.ext E2 A0.1)
            replace S_b1 := S_b1'
            replace S_b2 := S_b2'
            replace A0 := A'
            replace hk0 := Nat.le_trans hk0 E2.1
            replace O0 : Ext Z.heap h2 := ext_trans O0 E2
            replace K0 : Keep h0 h2 [] := K0.ext E2
            have V_b2 : Arv Z h2 b2 k2 .char (4 : Int32) [(.int 0), (.int 0), (.int 0), (.int 0)] (.int 0) := (Arv.new A2 (by decide)).pad (pad_rep [] (.int 0) 4)
            refine OEndsH.st (S' := T2.setTop (mkF m 115 #[vr tc, vi ln] [(.int 0), (.ref tc), (.int 0), (.ref b2), (.ref b2), (.ref b1), (.ref b1)])) (fun _ k => ?_) ?_
            · refine XS.dup X2.here hx rfl (hb hby d_4_111) rfl rfl ?_
              refine XS.iconst X2.here hx rfl (hb hby d_4_112) ?_
              refine XS.aloadN X2.here hx rfl (hb hby d_4_113) rfl rfl ?_
              refine XS.iconst X2.here hx rfl (hb hby d_4_114) ?_
              exact k
            obtain ⟨cl_tc_3, Ar_tc_3, q_tc_3, S_tc_3, N_tc_3, H_tc_3, G_tc_3⟩ := id V_tc
            refine OEndsH.st (S' := T2.setTop (mkF m 116 #[vr tc, vi ln] [(.int x0), (.int 0), (.ref b2), (.ref b2), (.ref b1), (.ref b1)])) (X2.caload hx (j := (0 : Int32)) (v := (.int x0)) (by rw [e2]; exact Ar_tc_3.1) (State.isArrayOf_alike hZ.alike Ar_tc_3.2.1) Ar_tc_3.2.2 (inb_of S_tc_3 ⟨by decide, by decide⟩) (H_tc_3.at (inb_of S_tc_3 ⟨by decide, by decide⟩) rfl) (g := (mkF m 115 #[vr tc, vi ln] [(.int 0), (.ref tc), (.int 0), (.ref b2), (.ref b2), (.ref b1), (.ref b1)])) rfl rfl (hb hby d_4_115)) ?_
            obtain ⟨cl_b2_4, Ar_b2_4, q_b2_4, S_b2_4, N_b2_4, H_b2_4, G_b2_4⟩ := V_b2
            obtain ⟨T4, h4, X4, e4, W4, st4⟩ := stC X2 hx hZ e2 Ar_b2_4 (j := (0 : Int32)) (inb_of S_b2_4 ⟨by decide, by decide⟩) (g := (mkF m 116 #[vr tc, vi ln] [(.int x0), (.int 0), (.ref b2), (.ref b2), (.ref b1), (.ref b1)])) rfl rfl (hb hby d_4_116)
            have V_b2_4 : Arv Z h4 b2 k2 .char (4 : Int32) [(.int (nar .char x0)), (.int 0), (.int 0), (.int 0)] (.int 0) := Arv.set Ar_b2_4 q_b2_4 S_b2_4 N_b2_4 H_b2_4 G_b2_4 (fits_nar_char _) W4 0 rfl (Nat.le_of_ble_eq_true rfl)
            refine OEndsH.st st4 ?_
            replace V_tc := V_tc.other W4 ne_tc_b2
            replace A1 := A1.wr W4
            replace F_value_b1 := F_value_b1.other W4 (Or.inl ne_b1_b2)
            replace F_coder_b1 := F_coder_b1.other W4 (Or.inl ne_b1_b2)
            have S_b1' : Safe Z EL vm0 h4 b1 := Safe.wr W4 S_b2 A0.1 S_b1
            have S_b2' : Safe Z EL vm0 h4 b2 := Safe.wr W4 S_b2 A0.1 S_b2
            have A' : CHr Z EL s.vm s.heap vm0 h4 := A0.trans (CHr.wr W4 S_b2 A0.1)
            replace S_b1 := S_b1'
            replace S_b2 := S_b2'
            replace A0 := A'
            replace hk0 := Nat.le_trans hk0 (Keep.of_wr W4).1
            replace O0 : Ext Z.heap h4 := ext_wr O0 W4 ge_b2
            replace N0 := Fr.snoc X4 N0 ge_b2
            replace K0 : Keep h0 h4 [] := K0.wr W4 (Or.inr sz_b2)
            refine OEndsH.st (S' := T4.setTop (mkF m 121 #[vr tc, vi ln] [(.int 1), (.ref tc), (.int 1), (.ref b2), (.ref b2), (.ref b1), (.ref b1)])) (fun _ k => ?_) ?_
            · refine XS.dup X4.here hx rfl (hb hby d_4_117) rfl rfl ?_
              refine XS.iconst X4.here hx rfl (hb hby d_4_118) ?_
              refine XS.aloadN X4.here hx rfl (hb hby d_4_119) rfl rfl ?_
              refine XS.iconst X4.here hx rfl (hb hby d_4_120) ?_
              exact k
            obtain ⟨cl_tc_5, Ar_tc_5, q_tc_5, S_tc_5, N_tc_5, H_tc_5, G_tc_5⟩ := id V_tc
            refine OEndsH.st (S' := T4.setTop (mkF m 122 #[vr tc, vi ln] [(.int x1), (.int 1), (.ref b2), (.ref b2), (.ref b1), (.ref b1)])) (X4.caload hx (j := (1 : Int32)) (v := (.int x1)) (by rw [e4]; exact Ar_tc_5.1) (State.isArrayOf_alike hZ.alike Ar_tc_5.2.1) Ar_tc_5.2.2 (inb_of S_tc_5 ⟨by decide, by decide⟩) (H_tc_5.at (inb_of S_tc_5 ⟨by decide, by decide⟩) rfl) (g := (mkF m 121 #[vr tc, vi ln] [(.int 1), (.ref tc), (.int 1), (.ref b2), (.ref b2), (.ref b1), (.ref b1)])) rfl rfl (hb hby d_4_121)) ?_
            obtain ⟨cl_b2_6, Ar_b2_6, q_b2_6, S_b2_6, N_b2_6, H_b2_6, G_b2_6⟩ := V_b2_4
            obtain ⟨T6, h6, X6, e6, W6, st6⟩ := stC X4 hx hZ e4 Ar_b2_6 (j := (1 : Int32)) (inb_of S_b2_6 ⟨by decide, by decide⟩) (g := (mkF m 122 #[vr tc, vi ln] [(.int x1), (.int 1), (.ref b2), (.ref b2), (.ref b1), (.ref b1)])) rfl rfl (hb hby d_4_122)
            have V_b2_6 : Arv Z h6 b2 k2 .char (4 : Int32) [(.int (nar .char x0)), (.int (nar .char x1)), (.int 0), (.int 0)] (.int 0) := Arv.set Ar_b2_6 q_b2_6 S_b2_6 N_b2_6 H_b2_6 G_b2_6 (fits_nar_char _) W6 1 rfl (Nat.le_of_ble_eq_true rfl)
            refine OEndsH.st st6 ?_
            replace V_tc := V_tc.other W6 ne_tc_b2
            replace A1 := A1.wr W6
            replace F_value_b1 := F_value_b1.other W6 (Or.inl ne_b1_b2)
            replace F_coder_b1 := F_coder_b1.other W6 (Or.inl ne_b1_b2)
            have S_b1' : Safe Z EL vm0 h6 b1 := Safe.wr W6 S_b2 A0.1 S_b1
            have S_b2' : Safe Z EL vm0 h6 b2 := Safe.wr W6 S_b2 A0.1 S_b2
            have A' : CHr Z EL s.vm s.heap vm0 h6 := A0.trans (CHr.wr W6 S_b2 A0.1)
            replace S_b1 := S_b1'
            replace S_b2 := S_b2'
            replace A0 := A'
            replace hk0 := Nat.le_trans hk0 (Keep.of_wr W6).1
            replace O0 : Ext Z.heap h6 := ext_wr O0 W6 ge_b2
            replace N0 := Fr.snoc X6 N0 ge_b2
            replace K0 : Keep h0 h6 [] := K0.wr W6 (Or.inr sz_b2)
            refine OEndsH.st (S' := T6.setTop (mkF m 127 #[vr tc, vi ln] [(.int 2), (.ref tc), (.int 2), (.ref b2), (.ref b2), (.ref b1), (.ref b1)])) (fun _ k => ?_) ?_
            · refine XS.dup X6.here hx rfl (hb hby d_4_123) rfl rfl ?_
              refine XS.iconst X6.here hx rfl (hb hby d_4_124) ?_
              refine XS.aloadN X6.here hx rfl (hb hby d_4_125) rfl rfl ?_
              refine XS.iconst X6.here hx rfl (hb hby d_4_126) ?_
              exact k
            obtain ⟨cl_tc_7, Ar_tc_7, q_tc_7, S_tc_7, N_tc_7, H_tc_7, G_tc_7⟩ := id V_tc
            refine OEndsH.st (S' := T6.setTop (mkF m 128 #[vr tc, vi ln] [(.int x2), (.int 2), (.ref b2), (.ref b2), (.ref b1), (.ref b1)])) (X6.caload hx (j := (2 : Int32)) (v := (.int x2)) (by rw [e6]; exact Ar_tc_7.1) (State.isArrayOf_alike hZ.alike Ar_tc_7.2.1) Ar_tc_7.2.2 (inb_of S_tc_7 ⟨by decide, by decide⟩) (H_tc_7.at (inb_of S_tc_7 ⟨by decide, by decide⟩) rfl) (g := (mkF m 127 #[vr tc, vi ln] [(.int 2), (.ref tc), (.int 2), (.ref b2), (.ref b2), (.ref b1), (.ref b1)])) rfl rfl (hb hby d_4_127)) ?_
            obtain ⟨cl_b2_8, Ar_b2_8, q_b2_8, S_b2_8, N_b2_8, H_b2_8, G_b2_8⟩ := V_b2_6
            obtain ⟨T8, h8, X8, e8, W8, st8⟩ := stC X6 hx hZ e6 Ar_b2_8 (j := (2 : Int32)) (inb_of S_b2_8 ⟨by decide, by decide⟩) (g := (mkF m 128 #[vr tc, vi ln] [(.int x2), (.int 2), (.ref b2), (.ref b2), (.ref b1), (.ref b1)])) rfl rfl (hb hby d_4_128)
            have V_b2_8 : Arv Z h8 b2 k2 .char (4 : Int32) [(.int (nar .char x0)), (.int (nar .char x1)), (.int (nar .char x2)), (.int 0)] (.int 0) := Arv.set Ar_b2_8 q_b2_8 S_b2_8 N_b2_8 H_b2_8 G_b2_8 (fits_nar_char _) W8 2 rfl (Nat.le_of_ble_eq_true rfl)
            refine OEndsH.st st8 ?_
            replace V_tc := V_tc.other W8 ne_tc_b2
            replace A1 := A1.wr W8
            replace F_value_b1 := F_value_b1.other W8 (Or.inl ne_b1_b2)
            replace F_coder_b1 := F_coder_b1.other W8 (Or.inl ne_b1_b2)
            have S_b1' : Safe Z EL vm0 h8 b1 := Safe.wr W8 S_b2 A0.1 S_b1
            have S_b2' : Safe Z EL vm0 h8 b2 := Safe.wr W8 S_b2 A0.1 S_b2
            have A' : CHr Z EL s.vm s.heap vm0 h8 := A0.trans (CHr.wr W8 S_b2 A0.1)
            replace S_b1 := S_b1'
            replace S_b2 := S_b2'
            replace A0 := A'
            replace hk0 := Nat.le_trans hk0 (Keep.of_wr W8).1
            replace O0 : Ext Z.heap h8 := ext_wr O0 W8 ge_b2
            replace N0 := Fr.snoc X8 N0 ge_b2
            replace K0 : Keep h0 h8 [] := K0.wr W8 (Or.inr sz_b2)
            refine OEndsH.st (S' := T8.setTop (mkF m 133 #[vr tc, vi ln] [(.int 3), (.ref tc), (.int 3), (.ref b2), (.ref b2), (.ref b1), (.ref b1)])) (fun _ k => ?_) ?_
            · refine XS.dup X8.here hx rfl (hb hby d_4_129) rfl rfl ?_
              refine XS.iconst X8.here hx rfl (hb hby d_4_130) ?_
              refine XS.aloadN X8.here hx rfl (hb hby d_4_131) rfl rfl ?_
              refine XS.iconst X8.here hx rfl (hb hby d_4_132) ?_
              exact k
            obtain ⟨cl_tc_9, Ar_tc_9, q_tc_9, S_tc_9, N_tc_9, H_tc_9, G_tc_9⟩ := id V_tc
            refine OEndsH.st (S' := T8.setTop (mkF m 134 #[vr tc, vi ln] [(.int x3), (.int 3), (.ref b2), (.ref b2), (.ref b1), (.ref b1)])) (X8.caload hx (j := (3 : Int32)) (v := (.int x3)) (by rw [e8]; exact Ar_tc_9.1) (State.isArrayOf_alike hZ.alike Ar_tc_9.2.1) Ar_tc_9.2.2 (inb_of S_tc_9 ⟨by decide, by decide⟩) (H_tc_9.at (inb_of S_tc_9 ⟨by decide, by decide⟩) rfl) (g := (mkF m 133 #[vr tc, vi ln] [(.int 3), (.ref tc), (.int 3), (.ref b2), (.ref b2), (.ref b1), (.ref b1)])) rfl rfl (hb hby d_4_133)) ?_
            obtain ⟨cl_b2_10, Ar_b2_10, q_b2_10, S_b2_10, N_b2_10, H_b2_10, G_b2_10⟩ := V_b2_8
            obtain ⟨T10, h10, X10, e10, W10, st10⟩ := stC X8 hx hZ e8 Ar_b2_10 (j := (3 : Int32)) (inb_of S_b2_10 ⟨by decide, by decide⟩) (g := (mkF m 134 #[vr tc, vi ln] [(.int x3), (.int 3), (.ref b2), (.ref b2), (.ref b1), (.ref b1)])) rfl rfl (hb hby d_4_134)
            have V_b2_10 : Arv Z h10 b2 k2 .char (4 : Int32) [(.int (nar .char x0)), (.int (nar .char x1)), (.int (nar .char x2)), (.int (nar .char x3))] (.int 0) := Arv.set Ar_b2_10 q_b2_10 S_b2_10 N_b2_10 H_b2_10 G_b2_10 (fits_nar_char _) W10 3 rfl (Nat.le_of_ble_eq_true rfl)
            refine OEndsH.st st10 ?_
            replace V_tc := V_tc.other W10 ne_tc_b2
            replace A1 := A1.wr W10
            replace F_value_b1 := F_value_b1.other W10 (Or.inl ne_b1_b2)
            replace F_coder_b1 := F_coder_b1.other W10 (Or.inl ne_b1_b2)
            have S_b1' : Safe Z EL vm0 h10 b1 := Safe.wr W10 S_b2 A0.1 S_b1
            have S_b2' : Safe Z EL vm0 h10 b2 := Safe.wr W10 S_b2 A0.1 S_b2
            have A' : CHr Z EL s.vm s.heap vm0 h10 := A0.trans (CHr.wr W10 S_b2 A0.1)
            replace S_b1 := S_b1'
            replace S_b2 := S_b2'
            replace A0 := A'
            replace hk0 := Nat.le_trans hk0 (Keep.of_wr W10).1
            replace O0 : Ext Z.heap h10 := ext_wr O0 W10 ge_b2
            replace N0 := Fr.snoc X10 N0 ge_b2
            replace K0 : Keep h0 h10 [] := K0.wr W10 (Or.inr sz_b2)
            simp only [nar_char (x := x0) hx0, nar_char (x := x1) hx1, nar_char (x := x2) hx2, nar_char (x := x3) hx3] at V_b2_10
            have hp11 : ∀ c ∈ ([x0, x1, x2, x3] : List Int32), ¬ c < 0 ∧ ¬ (255 : Int32) < c := by
              intro c hc; simp only [List.mem_cons, List.not_mem_nil, or_false] at hc
              rcases hc with rfl | rfl | rfl | rfl
              · exact hx0
              · exact hx1
              · exact hx2
              · exact hx3
            obtain ⟨_, T12, h12, L12, X12, e12, hQ12, st12⟩ := specC X10 hx hZ rfl hown (wq hw 11 rfl) (wq hw 12 rfl) (wq hw 13 rfl) (by decide) (kc := 1) (ks := 4) (SB.of (Q := StrChars.Road.QV Z b1 (4 : Int32) (([x0, x1, x2, x3] : List Int32).map (fun c => c.toInt8.toInt32)) h10 Z.heap.size) (StrChars.Road.backV (W := 1) hZ hws (kI := 4) (wq hw 9 rfl) (cs := ([x0, x1, x2, x3] : List Int32)) (bs := (([x0, x1, x2, x3] : List Int32).map (fun c => c.toInt8.toInt32))) (n := 4) ge_b1 O0.1 A1 F_value_b1 F_coder_b1 V_b2_10 (S_CS.ext O0) hcz rfl rfl (by decide) (by decide) hp11 rfl (by decide) (by decide))) e10 (a := b1) (g := (mkF m 135 #[vr tc, vi ln] [(.ref b2), (.ref b1), (.ref b1)])) rfl (by rw [hml]; rfl) (argsL := [(.ref b2)]) (rest := [(.ref b1)]) (lenOf pd_2 rfl) rfl (by show 2 * 0 + _ ≤ _; exact Nat.le_of_eq rfl) (hb hby d_4_135) (by decide) (by decide)
            obtain ⟨rfl, Nq12, Kq12, Eq12, Fc12, t12, kb12, gq12, szq12, nq12, Fv12, V12⟩ := hQ12
            refine OEndsH.st st12 ?_
            replace N0 := Fr.app N0 Nq12
            have ne_b1_t12 : b1 ≠ t12 := Nat.ne_of_lt (Nat.lt_of_lt_of_le A1.lt szq12)
            have ne_b2_t12 : b2 ≠ t12 := Nat.ne_of_lt (Nat.lt_of_lt_of_le V_b2_10.lt szq12)
            have ne_tc_t12 : tc ≠ t12 := Nat.ne_of_lt (Nat.lt_of_lt_of_le V_tc.lt szq12)
            have ge_t12 : Z.heap.size ≤ t12 := Nat.le_trans O0.1 szq12
            have S_t12 : Safe Z EL vm0 h10 t12 := Safe.new szq12
            have sz_t12 : h0.size ≤ t12 := Nat.le_trans K0.1 szq12
            replace V_tc := V_tc.keep Kq12 (ninS ne_tc_b1 nin0)
            replace A1 := A1.keep Kq12
            replace V_b2_10 := V_b2_10.keep Kq12 (ninS (Ne.symm ne_b1_b2) nin0)
            have S_b1' : Safe Z EL vm0 h12 b1 := Safe.keep Kq12 (sfS S_b1 sf0) A0.1 S_b1
            have S_b2' : Safe Z EL vm0 h12 b2 := Safe.keep Kq12 (sfS S_b1 sf0) A0.1 S_b2
            have S_t12' : Safe Z EL vm0 h12 t12 := Safe.keep Kq12 (sfS S_b1 sf0) A0.1 S_t12
            have A' : CHr Z EL s.vm s.heap vm0 h12 := A0.trans (CHr.keep Kq12 (sfS S_b1 sf0) A0.1)
            replace S_b1 := S_b1'
            replace S_b2 := S_b2'
            replace S_t12 := S_t12'
            replace A0 := A'
            replace hk0 := Nat.le_trans hk0 Kq12.1
            replace O0 : Ext Z.heap h12 := ext_keep O0 Kq12 (allS ge_b1 all0)
            replace K0 : Keep h0 h12 [] := K0.trans Kq12 (allS (Or.inr sz_b1) all0)
            replace V12 : Arv Z h12 t12 kb12 .byte (Int32.ofNat 4) [(.int (x0).toInt8.toInt32), (.int (x1).toInt8.toInt32), (.int (x2).toInt8.toInt32), (.int (x3).toInt8.toInt32)] (.int 0) := V12
            clear V_b2_10
            exact OEndsH.ret X12 hx hZ hEL e12 hS0 hk0 A0 hret hlk rfl (Or.inr (Or.inr (Or.inr (Or.inr ⟨rfl, rfl, rfl⟩)))) (hb hby d_4_138) (by decide) (by decide) ⟨b1, 4, rfl, N0, K0, (by decide), q4, A1, Fc12, t12, _, Fv12, V12⟩
          · refine OEndsH.st (S' := T0.setTop (mkF m 141 #[vr tc, vi ln] [(.int 5), (.int ln)])) (fun _ k => ?_) ?_
            · refine XS.icmpYes X0.here hx rfl (pc0 := 101) (pc' := 139) rfl (hb hby d_4_101) rfl (feq q4).2 (by decide) (by decide) ?_
              refine XS.iloadN X0.here hx rfl (hb hby d_4_139) rfl ?_
              refine XS.iconst X0.here hx rfl (hb hby d_4_140) ?_
              exact k
            rcases Classical.em (ln = (5 : Int32)) with q5 | q5
            · refine OEndsH.st (S' := T0.setTop (mkF m 144 #[vr tc, vi ln] [])) (fun _ k => ?_) ?_
              · refine XS.icmpNo X0.here hx rfl (hb hby d_4_141) rfl (teq q5).2 ?_
                exact k
              obtain ⟨T1, h1, X1, e1, E1, A1, D1, U1, st1⟩ := newO X0 hx hZ hown (wq hw 8 rfl) (wq hw 9 rfl) (wq hw 10 rfl) e0 (g := (mkF m 144 #[vr tc, vi ln] [])) rfl (hb hby d_4_144) (by decide) (by decide)
              obtain ⟨b1, g1⟩ : ∃ z, z = h0.size := ⟨_, rfl⟩
              rw [← g1] at A1 D1 U1 st1
              refine OEndsH.st st1 ?_
              have ne_tc_b1 : tc ≠ b1 := Nat.ne_of_lt (Nat.lt_of_lt_of_le V_tc.lt (Nat.le_of_eq g1.symm))
              have ge_b1 : Z.heap.size ≤ b1 := Nat.le_trans O0.1 (Nat.le_of_eq g1.symm)
              have sz_b1 : h0.size ≤ b1 := Nat.le_trans K0.1 (Nat.le_of_eq g1.symm)
              have S_b1 : Safe Z EL vm0 h0 b1 := Safe.new (Nat.le_of_eq g1.symm)
              replace V_tc := V_tc.ext E1
              have S_b1' : Safe Z EL vm0 h1 b1 := Safe.ext E1 A0.1 S_b1
              have A' : CHr Z EL s.vm s.heap vm0 h1 := A0.trans (CHr.ext E1 A0.1)
              replace S_b1 := S_b1'
              replace A0 := A'
              replace hk0 := Nat.le_trans hk0 E1.1
              replace O0 : Ext Z.heap h1 := ext_trans O0 E1
              replace K0 : Keep h0 h1 [] := K0.ext E1
              have F_value_b1 : Fld Z h1 b1 "java/lang/String" "value" "[B" .null := D1 (Or.inr (wq hw 23 rfl)) (ty := (.array .byte)) (by decide)
              have F_coder_b1 : Fld Z h1 b1 "java/lang/String" "coder" "B" (.int 0) := D1 (Or.inr (wq hw 24 rfl)) (ty := .byte) (by decide)
              refine OEndsH.st (S' := T1.setTop (mkF m 149 #[vr tc, vi ln] [(.int 5), (.ref b1), (.ref b1)])) (fun _ k => ?_) ?_
              · refine XS.dup X1.here hx rfl (hb hby d_4_147) rfl rfl ?_
                refine XS.iconst X1.here hx rfl (hb hby d_4_148) ?_
                exact k
              obtain ⟨T2, h2, k2, X2, e2, E2, A2, st2⟩ := newP X1 hx hZ (wq hw 0 rfl) e1 (g := (mkF m 149 #[vr tc, vi ln] [(.int 5), (.ref b1), (.ref b1)])) rfl (hb hby d_4_149) rfl (by decide) (cap := 5) (by decide) (by decide) (by decide) (by decide)
              obtain ⟨b2, g2⟩ : ∃ z, z = h1.size := ⟨_, rfl⟩
              rw [← g2] at A2 st2
              refine OEndsH.st st2 ?_
              have ne_b1_b2 : b1 ≠ b2 := Nat.ne_of_lt (Nat.lt_of_lt_of_le A1.lt (Nat.le_of_eq g2.symm))
              have ne_tc_b2 : tc ≠ b2 := Nat.ne_of_lt (Nat.lt_of_lt_of_le V_tc.lt (Nat.le_of_eq g2.symm))
              have ge_b2 : Z.heap.size ≤ b2 := Nat.le_trans O0.1 (Nat.le_of_eq g2.symm)
              have sz_b2 : h0.size ≤ b2 := Nat.le_trans K0.1 (Nat.le_of_eq g2.symm)
              have S_b2 : Safe Z EL vm0 h1 b2 := Safe.new (Nat.le_of_eq g2.symm)
              replace V_tc := V_tc.ext E2
              replace A1 := A1.ext E2
              replace F_value_b1 := F_value_b1.ext E2
              replace F_coder_b1 := F_coder_b1.ext E2
              have S_b1' : Safe Z EL vm0 h2 b1 := Safe.ext E2 A0.1 S_b1
              have S_b2' : Safe Z EL vm0 h2 b2 := Safe.ext E2 A0.1 S_b2
              have A' : CHr Z EL s.vm s.heap vm0 h2 := A0.trans (CHr.ext E2 A0.1)
              replace S_b1 := S_b1'
              replace S_b2 := S_b2'
              replace A0 := A'
              replace hk0 := Nat.le_trans hk0 E2.1
              replace O0 : Ext Z.heap h2 := ext_trans O0 E2
              replace K0 : Keep h0 h2 [] := K0.ext E2
              have V_b2 : Arv Z h2 b2 k2 .char (5 : Int32) [(.int 0), (.int 0), (.int 0), (.int 0), (.int 0)] (.int 0) := (Arv.new A2 (by decide)).pad (pad_rep [] (.int 0) 5)
              refine OEndsH.st (S' := T2.setTop (mkF m 155 #[vr tc, vi ln] [(.int 0), (.ref tc), (.int 0), (.ref b2), (.ref b2), (.ref b1), (.ref b1)])) (fun _ k => ?_) ?_
              · refine XS.dup X2.here hx rfl (hb hby d_4_151) rfl rfl ?_
                refine XS.iconst X2.here hx rfl (hb hby d_4_152) ?_
                refine XS.aloadN X2.here hx rfl (hb hby d_4_153) rfl rfl ?_
                refine XS.iconst X2.here hx rfl (hb hby d_4_154) ?_
                exact k
              obtain ⟨cl_tc_3, Ar_tc_3, q_tc_3, S_tc_3, N_tc_3, H_tc_3, G_tc_3⟩ := id V_tc
              refine OEndsH.st (S' := T2.setTop (mkF m 156 #[vr tc, vi ln] [(.int x0), (.int 0), (.ref b2), (.ref b2), (.ref b1), (.ref b1)])) (X2.caload hx (j := (0 : Int32)) (v := (.int x0)) (by rw [e2]; exact Ar_tc_3.1) (State.isArrayOf_alike hZ.alike Ar_tc_3.2.1) Ar_tc_3.2.2 (inb_of S_tc_3 ⟨by decide, by decide⟩) (H_tc_3.at (inb_of S_tc_3 ⟨by decide, by decide⟩) rfl) (g := (mkF m 155 #[vr tc, vi ln] [(.int 0), (.ref tc), (.int 0), (.ref b2), (.ref b2), (.ref b1), (.ref b1)])) rfl rfl (hb hby d_4_155)) ?_
              obtain ⟨cl_b2_4, Ar_b2_4, q_b2_4, S_b2_4, N_b2_4, H_b2_4, G_b2_4⟩ := V_b2
              obtain ⟨T4, h4, X4, e4, W4, st4⟩ := stC X2 hx hZ e2 Ar_b2_4 (j := (0 : Int32)) (inb_of S_b2_4 ⟨by decide, by decide⟩) (g := (mkF m 156 #[vr tc, vi ln] [(.int x0), (.int 0), (.ref b2), (.ref b2), (.ref b1), (.ref b1)])) rfl rfl (hb hby d_4_156)
              have V_b2_4 : Arv Z h4 b2 k2 .char (5 : Int32) [(.int (nar .char x0)), (.int 0), (.int 0), (.int 0), (.int 0)] (.int 0) := Arv.set Ar_b2_4 q_b2_4 S_b2_4 N_b2_4 H_b2_4 G_b2_4 (fits_nar_char _) W4 0 rfl (Nat.le_of_ble_eq_true rfl)
              refine OEndsH.st st4 ?_
              replace V_tc := V_tc.other W4 ne_tc_b2
              replace A1 := A1.wr W4
              replace F_value_b1 := F_value_b1.other W4 (Or.inl ne_b1_b2)
              replace F_coder_b1 := F_coder_b1.other W4 (Or.inl ne_b1_b2)
              have S_b1' : Safe Z EL vm0 h4 b1 := Safe.wr W4 S_b2 A0.1 S_b1
              have S_b2' : Safe Z EL vm0 h4 b2 := Safe.wr W4 S_b2 A0.1 S_b2
              have A' : CHr Z EL s.vm s.heap vm0 h4 := A0.trans (CHr.wr W4 S_b2 A0.1)
              replace S_b1 := S_b1'
              replace S_b2 := S_b2'
              replace A0 := A'
              replace hk0 := Nat.le_trans hk0 (Keep.of_wr W4).1
              replace O0 : Ext Z.heap h4 := ext_wr O0 W4 ge_b2
              replace N0 := Fr.snoc X4 N0 ge_b2
              replace K0 : Keep h0 h4 [] := K0.wr W4 (Or.inr sz_b2)
              refine OEndsH.st (S' := T4.setTop (mkF m 161 #[vr tc, vi ln] [(.int 1), (.ref tc), (.int 1), (.ref b2), (.ref b2), (.ref b1), (.ref b1)])) (fun _ k => ?_) ?_
              · refine XS.dup X4.here hx rfl (hb hby d_4_157) rfl rfl ?_
                refine XS.iconst X4.here hx rfl (hb hby d_4_158) ?_
                refine XS.aloadN X4.here hx rfl (hb hby d_4_159) rfl rfl ?_
                refine XS.iconst X4.here hx rfl (hb hby d_4_160) ?_
                exact k
              obtain ⟨cl_tc_5, Ar_tc_5, q_tc_5, S_tc_5, N_tc_5, H_tc_5, G_tc_5⟩ := id V_tc
              refine OEndsH.st (S' := T4.setTop (mkF m 162 #[vr tc, vi ln] [(.int x1), (.int 1), (.ref b2), (.ref b2), (.ref b1), (.ref b1)])) (X4.caload hx (j := (1 : Int32)) (v := (.int x1)) (by rw [e4]; exact Ar_tc_5.1) (State.isArrayOf_alike hZ.alike Ar_tc_5.2.1) Ar_tc_5.2.2 (inb_of S_tc_5 ⟨by decide, by decide⟩) (H_tc_5.at (inb_of S_tc_5 ⟨by decide, by decide⟩) rfl) (g := (mkF m 161 #[vr tc, vi ln] [(.int 1), (.ref tc), (.int 1), (.ref b2), (.ref b2), (.ref b1), (.ref b1)])) rfl rfl (hb hby d_4_161)) ?_
              obtain ⟨cl_b2_6, Ar_b2_6, q_b2_6, S_b2_6, N_b2_6, H_b2_6, G_b2_6⟩ := V_b2_4
              obtain ⟨T6, h6, X6, e6, W6, st6⟩ := stC X4 hx hZ e4 Ar_b2_6 (j := (1 : Int32)) (inb_of S_b2_6 ⟨by decide, by decide⟩) (g := (mkF m 162 #[vr tc, vi ln] [(.int x1), (.int 1), (.ref b2), (.ref b2), (.ref b1), (.ref b1)])) rfl rfl (hb hby d_4_162)
              have V_b2_6 : Arv Z h6 b2 k2 .char (5 : Int32) [(.int (nar .char x0)), (.int (nar .char x1)), (.int 0), (.int 0), (.int 0)] (.int 0) := Arv.set Ar_b2_6 q_b2_6 S_b2_6 N_b2_6 H_b2_6 G_b2_6 (fits_nar_char _) W6 1 rfl (Nat.le_of_ble_eq_true rfl)
              refine OEndsH.st st6 ?_
              replace V_tc := V_tc.other W6 ne_tc_b2
              replace A1 := A1.wr W6
              replace F_value_b1 := F_value_b1.other W6 (Or.inl ne_b1_b2)
              replace F_coder_b1 := F_coder_b1.other W6 (Or.inl ne_b1_b2)
              have S_b1' : Safe Z EL vm0 h6 b1 := Safe.wr W6 S_b2 A0.1 S_b1
              have S_b2' : Safe Z EL vm0 h6 b2 := Safe.wr W6 S_b2 A0.1 S_b2
              have A' : CHr Z EL s.vm s.heap vm0 h6 := A0.trans (CHr.wr W6 S_b2 A0.1)
              replace S_b1 := S_b1'
              replace S_b2 := S_b2'
              replace A0 := A'
              replace hk0 := Nat.le_trans hk0 (Keep.of_wr W6).1
              replace O0 : Ext Z.heap h6 := ext_wr O0 W6 ge_b2
              replace N0 := Fr.snoc X6 N0 ge_b2
              replace K0 : Keep h0 h6 [] := K0.wr W6 (Or.inr sz_b2)
              refine OEndsH.st (S' := T6.setTop (mkF m 167 #[vr tc, vi ln] [(.int 2), (.ref tc), (.int 2), (.ref b2), (.ref b2), (.ref b1), (.ref b1)])) (fun _ k => ?_) ?_
              · refine XS.dup X6.here hx rfl (hb hby d_4_163) rfl rfl ?_
                refine XS.iconst X6.here hx rfl (hb hby d_4_164) ?_
                refine XS.aloadN X6.here hx rfl (hb hby d_4_165) rfl rfl ?_
                refine XS.iconst X6.here hx rfl (hb hby d_4_166) ?_
                exact k
              obtain ⟨cl_tc_7, Ar_tc_7, q_tc_7, S_tc_7, N_tc_7, H_tc_7, G_tc_7⟩ := id V_tc
              refine OEndsH.st (S' := T6.setTop (mkF m 168 #[vr tc, vi ln] [(.int x2), (.int 2), (.ref b2), (.ref b2), (.ref b1), (.ref b1)])) (X6.caload hx (j := (2 : Int32)) (v := (.int x2)) (by rw [e6]; exact Ar_tc_7.1) (State.isArrayOf_alike hZ.alike Ar_tc_7.2.1) Ar_tc_7.2.2 (inb_of S_tc_7 ⟨by decide, by decide⟩) (H_tc_7.at (inb_of S_tc_7 ⟨by decide, by decide⟩) rfl) (g := (mkF m 167 #[vr tc, vi ln] [(.int 2), (.ref tc), (.int 2), (.ref b2), (.ref b2), (.ref b1), (.ref b1)])) rfl rfl (hb hby d_4_167)) ?_
              obtain ⟨cl_b2_8, Ar_b2_8, q_b2_8, S_b2_8, N_b2_8, H_b2_8, G_b2_8⟩ := V_b2_6
              obtain ⟨T8, h8, X8, e8, W8, st8⟩ := stC X6 hx hZ e6 Ar_b2_8 (j := (2 : Int32)) (inb_of S_b2_8 ⟨by decide, by decide⟩) (g := (mkF m 168 #[vr tc, vi ln] [(.int x2), (.int 2), (.ref b2), (.ref b2), (.ref b1), (.ref b1)])) rfl rfl (hb hby d_4_168)
              have V_b2_8 : Arv Z h8 b2 k2 .char (5 : Int32) [(.int (nar .char x0)), (.int (nar .char x1)), (.int (nar .char x2)), (.int 0), (.int 0)] (.int 0) := Arv.set Ar_b2_8 q_b2_8 S_b2_8 N_b2_8 H_b2_8 G_b2_8 (fits_nar_char _) W8 2 rfl (Nat.le_of_ble_eq_true rfl)
              refine OEndsH.st st8 ?_
              replace V_tc := V_tc.other W8 ne_tc_b2
              replace A1 := A1.wr W8
              replace F_value_b1 := F_value_b1.other W8 (Or.inl ne_b1_b2)
              replace F_coder_b1 := F_coder_b1.other W8 (Or.inl ne_b1_b2)
              have S_b1' : Safe Z EL vm0 h8 b1 := Safe.wr W8 S_b2 A0.1 S_b1
              have S_b2' : Safe Z EL vm0 h8 b2 := Safe.wr W8 S_b2 A0.1 S_b2
              have A' : CHr Z EL s.vm s.heap vm0 h8 := A0.trans (CHr.wr W8 S_b2 A0.1)
              replace S_b1 := S_b1'
              replace S_b2 := S_b2'
              replace A0 := A'
              replace hk0 := Nat.le_trans hk0 (Keep.of_wr W8).1
              replace O0 : Ext Z.heap h8 := ext_wr O0 W8 ge_b2
              replace N0 := Fr.snoc X8 N0 ge_b2
              replace K0 : Keep h0 h8 [] := K0.wr W8 (Or.inr sz_b2)
              refine OEndsH.st (S' := T8.setTop (mkF m 173 #[vr tc, vi ln] [(.int 3), (.ref tc), (.int 3), (.ref b2), (.ref b2), (.ref b1), (.ref b1)])) (fun _ k => ?_) ?_
              · refine XS.dup X8.here hx rfl (hb hby d_4_169) rfl rfl ?_
                refine XS.iconst X8.here hx rfl (hb hby d_4_170) ?_
                refine XS.aloadN X8.here hx rfl (hb hby d_4_171) rfl rfl ?_
                refine XS.iconst X8.here hx rfl (hb hby d_4_172) ?_
                exact k
              obtain ⟨cl_tc_9, Ar_tc_9, q_tc_9, S_tc_9, N_tc_9, H_tc_9, G_tc_9⟩ := id V_tc
              refine OEndsH.st (S' := T8.setTop (mkF m 174 #[vr tc, vi ln] [(.int x3), (.int 3), (.ref b2), (.ref b2), (.ref b1), (.ref b1)])) (X8.caload hx (j := (3 : Int32)) (v := (.int x3)) (by rw [e8]; exact Ar_tc_9.1) (State.isArrayOf_alike hZ.alike Ar_tc_9.2.1) Ar_tc_9.2.2 (inb_of S_tc_9 ⟨by decide, by decide⟩) (H_tc_9.at (inb_of S_tc_9 ⟨by decide, by decide⟩) rfl) (g := (mkF m 173 #[vr tc, vi ln] [(.int 3), (.ref tc), (.int 3), (.ref b2), (.ref b2), (.ref b1), (.ref b1)])) rfl rfl (hb hby d_4_173)) ?_
              obtain ⟨cl_b2_10, Ar_b2_10, q_b2_10, S_b2_10, N_b2_10, H_b2_10, G_b2_10⟩ := V_b2_8
              obtain ⟨T10, h10, X10, e10, W10, st10⟩ := stC X8 hx hZ e8 Ar_b2_10 (j := (3 : Int32)) (inb_of S_b2_10 ⟨by decide, by decide⟩) (g := (mkF m 174 #[vr tc, vi ln] [(.int x3), (.int 3), (.ref b2), (.ref b2), (.ref b1), (.ref b1)])) rfl rfl (hb hby d_4_174)
              have V_b2_10 : Arv Z h10 b2 k2 .char (5 : Int32) [(.int (nar .char x0)), (.int (nar .char x1)), (.int (nar .char x2)), (.int (nar .char x3)), (.int 0)] (.int 0) := Arv.set Ar_b2_10 q_b2_10 S_b2_10 N_b2_10 H_b2_10 G_b2_10 (fits_nar_char _) W10 3 rfl (Nat.le_of_ble_eq_true rfl)
              refine OEndsH.st st10 ?_
              replace V_tc := V_tc.other W10 ne_tc_b2
              replace A1 := A1.wr W10
              replace F_value_b1 := F_value_b1.other W10 (Or.inl ne_b1_b2)
              replace F_coder_b1 := F_coder_b1.other W10 (Or.inl ne_b1_b2)
              have S_b1' : Safe Z EL vm0 h10 b1 := Safe.wr W10 S_b2 A0.1 S_b1
              have S_b2' : Safe Z EL vm0 h10 b2 := Safe.wr W10 S_b2 A0.1 S_b2
              have A' : CHr Z EL s.vm s.heap vm0 h10 := A0.trans (CHr.wr W10 S_b2 A0.1)
              replace S_b1 := S_b1'
              replace S_b2 := S_b2'
              replace A0 := A'
              replace hk0 := Nat.le_trans hk0 (Keep.of_wr W10).1
              replace O0 : Ext Z.heap h10 := ext_wr O0 W10 ge_b2
              replace N0 := Fr.snoc X10 N0 ge_b2
              replace K0 : Keep h0 h10 [] := K0.wr W10 (Or.inr sz_b2)
              refine OEndsH.st (S' := T10.setTop (mkF m 179 #[vr tc, vi ln] [(.int 4), (.ref tc), (.int 4), (.ref b2), (.ref b2), (.ref b1), (.ref b1)])) (fun _ k => ?_) ?_
              · refine XS.dup X10.here hx rfl (hb hby d_4_175) rfl rfl ?_
                refine XS.iconst X10.here hx rfl (hb hby d_4_176) ?_
                refine XS.aloadN X10.here hx rfl (hb hby d_4_177) rfl rfl ?_
                refine XS.iconst X10.here hx rfl (hb hby d_4_178) ?_
                exact k
              obtain ⟨cl_tc_11, Ar_tc_11, q_tc_11, S_tc_11, N_tc_11, H_tc_11, G_tc_11⟩ := id V_tc
              refine OEndsH.st (S' := T10.setTop (mkF m 180 #[vr tc, vi ln] [(.int x4), (.int 4), (.ref b2), (.ref b2), (.ref b1), (.ref b1)])) (X10.caload hx (j := (4 : Int32)) (v := (.int x4)) (by rw [e10]; exact Ar_tc_11.1) (State.isArrayOf_alike hZ.alike Ar_tc_11.2.1) Ar_tc_11.2.2 (inb_of S_tc_11 ⟨by decide, by decide⟩) (H_tc_11.at (inb_of S_tc_11 ⟨by decide, by decide⟩) rfl) (g := (mkF m 179 #[vr tc, vi ln] [(.int 4), (.ref tc), (.int 4), (.ref b2), (.ref b2), (.ref b1), (.ref b1)])) rfl rfl (hb hby d_4_179)) ?_
              obtain ⟨cl_b2_12, Ar_b2_12, q_b2_12, S_b2_12, N_b2_12, H_b2_12, G_b2_12⟩ := V_b2_10
              obtain ⟨T12, h12, X12, e12, W12, st12⟩ := stC X10 hx hZ e10 Ar_b2_12 (j := (4 : Int32)) (inb_of S_b2_12 ⟨by decide, by decide⟩) (g := (mkF m 180 #[vr tc, vi ln] [(.int x4), (.int 4), (.ref b2), (.ref b2), (.ref b1), (.ref b1)])) rfl rfl (hb hby d_4_180)
              have V_b2_12 : Arv Z h12 b2 k2 .char (5 : Int32) [(.int (nar .char x0)), (.int (nar .char x1)), (.int (nar .char x2)), (.int (nar .char x3)), (.int (nar .char x4))] (.int 0) := Arv.set Ar_b2_12 q_b2_12 S_b2_12 N_b2_12 H_b2_12 G_b2_12 (fits_nar_char _) W12 4 rfl (Nat.le_of_ble_eq_true rfl)
              refine OEndsH.st st12 ?_
              replace V_tc := V_tc.other W12 ne_tc_b2
              replace A1 := A1.wr W12
              replace F_value_b1 := F_value_b1.other W12 (Or.inl ne_b1_b2)
              replace F_coder_b1 := F_coder_b1.other W12 (Or.inl ne_b1_b2)
              have S_b1' : Safe Z EL vm0 h12 b1 := Safe.wr W12 S_b2 A0.1 S_b1
              have S_b2' : Safe Z EL vm0 h12 b2 := Safe.wr W12 S_b2 A0.1 S_b2
              have A' : CHr Z EL s.vm s.heap vm0 h12 := A0.trans (CHr.wr W12 S_b2 A0.1)
              replace S_b1 := S_b1'
              replace S_b2 := S_b2'
              replace A0 := A'
              replace hk0 := Nat.le_trans hk0 (Keep.of_wr W12).1
              replace O0 : Ext Z.heap h12 := ext_wr O0 W12 ge_b2
              replace N0 := Fr.snoc X12 N0 ge_b2
              replace K0 : Keep h0 h12 [] := K0.wr W12 (Or.inr sz_b2)
              simp only [nar_char (x := x0) hx0, nar_char (x := x1) hx1, nar_char (x := x2) hx2, nar_char (x := x3) hx3, nar_char (x := x4) hx4] at V_b2_12
              have hp13 : ∀ c ∈ ([x0, x1, x2, x3, x4] : List Int32), ¬ c < 0 ∧ ¬ (255 : Int32) < c := by
                intro c hc; simp only [List.mem_cons, List.not_mem_nil, or_false] at hc
                rcases hc with rfl | rfl | rfl | rfl | rfl
                · exact hx0
                · exact hx1
                · exact hx2
                · exact hx3
                · exact hx4
              obtain ⟨_, T14, h14, L14, X14, e14, hQ14, st14⟩ := specC X12 hx hZ rfl hown (wq hw 11 rfl) (wq hw 12 rfl) (wq hw 13 rfl) (by decide) (kc := 1) (ks := 5) (SB.of (Q := StrChars.Road.QV Z b1 (5 : Int32) (([x0, x1, x2, x3, x4] : List Int32).map (fun c => c.toInt8.toInt32)) h12 Z.heap.size) (StrChars.Road.backV (W := 1) hZ hws (kI := 4) (wq hw 9 rfl) (cs := ([x0, x1, x2, x3, x4] : List Int32)) (bs := (([x0, x1, x2, x3, x4] : List Int32).map (fun c => c.toInt8.toInt32))) (n := 5) ge_b1 O0.1 A1 F_value_b1 F_coder_b1 V_b2_12 (S_CS.ext O0) hcz rfl rfl (by decide) (by decide) hp13 rfl (by decide) (by decide))) e12 (a := b1) (g := (mkF m 181 #[vr tc, vi ln] [(.ref b2), (.ref b1), (.ref b1)])) rfl (by rw [hml]; rfl) (argsL := [(.ref b2)]) (rest := [(.ref b1)]) (lenOf pd_2 rfl) rfl (by show 2 * 0 + _ ≤ _; exact Nat.le_of_eq rfl) (hb hby d_4_181) (by decide) (by decide)
              obtain ⟨rfl, Nq14, Kq14, Eq14, Fc14, t14, kb14, gq14, szq14, nq14, Fv14, V14⟩ := hQ14
              refine OEndsH.st st14 ?_
              replace N0 := Fr.app N0 Nq14
              have ne_b1_t14 : b1 ≠ t14 := Nat.ne_of_lt (Nat.lt_of_lt_of_le A1.lt szq14)
              have ne_b2_t14 : b2 ≠ t14 := Nat.ne_of_lt (Nat.lt_of_lt_of_le V_b2_12.lt szq14)
              have ne_tc_t14 : tc ≠ t14 := Nat.ne_of_lt (Nat.lt_of_lt_of_le V_tc.lt szq14)
              have ge_t14 : Z.heap.size ≤ t14 := Nat.le_trans O0.1 szq14
              have S_t14 : Safe Z EL vm0 h12 t14 := Safe.new szq14
              have sz_t14 : h0.size ≤ t14 := Nat.le_trans K0.1 szq14
              replace V_tc := V_tc.keep Kq14 (ninS ne_tc_b1 nin0)
              replace A1 := A1.keep Kq14
              replace V_b2_12 := V_b2_12.keep Kq14 (ninS (Ne.symm ne_b1_b2) nin0)
              have S_b1' : Safe Z EL vm0 h14 b1 := Safe.keep Kq14 (sfS S_b1 sf0) A0.1 S_b1
              have S_b2' : Safe Z EL vm0 h14 b2 := Safe.keep Kq14 (sfS S_b1 sf0) A0.1 S_b2
              have S_t14' : Safe Z EL vm0 h14 t14 := Safe.keep Kq14 (sfS S_b1 sf0) A0.1 S_t14
              have A' : CHr Z EL s.vm s.heap vm0 h14 := A0.trans (CHr.keep Kq14 (sfS S_b1 sf0) A0.1)
              replace S_b1 := S_b1'
              replace S_b2 := S_b2'
              replace S_t14 := S_t14'
              replace A0 := A'
              replace hk0 := Nat.le_trans hk0 Kq14.1
              replace O0 : Ext Z.heap h14 := ext_keep O0 Kq14 (allS ge_b1 all0)
              replace K0 : Keep h0 h14 [] := K0.trans Kq14 (allS (Or.inr sz_b1) all0)
              replace V14 : Arv Z h14 t14 kb14 .byte (Int32.ofNat 5) [(.int (x0).toInt8.toInt32), (.int (x1).toInt8.toInt32), (.int (x2).toInt8.toInt32), (.int (x3).toInt8.toInt32), (.int (x4).toInt8.toInt32)] (.int 0) := V14
              clear V_b2_12
              exact OEndsH.ret X14 hx hZ hEL e14 hS0 hk0 A0 hret hlk rfl (Or.inr (Or.inr (Or.inr (Or.inr ⟨rfl, rfl, rfl⟩)))) (hb hby d_4_184) (by decide) (by decide) ⟨b1, 5, rfl, N0, K0, (by decide), q5, A1, Fc14, t14, _, Fv14, V14⟩
            · refine OEndsH.st (S' := T0.setTop (mkF m 188 #[vr tc, vi ln] [(.int 6), (.int ln)])) (fun _ k => ?_) ?_
              · refine XS.icmpYes X0.here hx rfl (pc0 := 141) (pc' := 185) rfl (hb hby d_4_141) rfl (feq q5).2 (by decide) (by decide) ?_
                refine XS.iloadN X0.here hx rfl (hb hby d_4_185) rfl ?_
                refine XS.bipush X0.here hx rfl (hb hby d_4_186) ?_
                exact k
              rcases Classical.em (ln = (6 : Int32)) with q6 | q6
              · refine OEndsH.st (S' := T0.setTop (mkF m 191 #[vr tc, vi ln] [])) (fun _ k => ?_) ?_
                · refine XS.icmpNo X0.here hx rfl (hb hby d_4_188) rfl (teq q6).2 ?_
                  exact k
                obtain ⟨T1, h1, X1, e1, E1, A1, D1, U1, st1⟩ := newO X0 hx hZ hown (wq hw 8 rfl) (wq hw 9 rfl) (wq hw 10 rfl) e0 (g := (mkF m 191 #[vr tc, vi ln] [])) rfl (hb hby d_4_191) (by decide) (by decide)
                obtain ⟨b1, g1⟩ : ∃ z, z = h0.size := ⟨_, rfl⟩
                rw [← g1] at A1 D1 U1 st1
                refine OEndsH.st st1 ?_
                have ne_tc_b1 : tc ≠ b1 := Nat.ne_of_lt (Nat.lt_of_lt_of_le V_tc.lt (Nat.le_of_eq g1.symm))
                have ge_b1 : Z.heap.size ≤ b1 := Nat.le_trans O0.1 (Nat.le_of_eq g1.symm)
                have sz_b1 : h0.size ≤ b1 := Nat.le_trans K0.1 (Nat.le_of_eq g1.symm)
                have S_b1 : Safe Z EL vm0 h0 b1 := Safe.new (Nat.le_of_eq g1.symm)
                replace V_tc := V_tc.ext E1
                have S_b1' : Safe Z EL vm0 h1 b1 := Safe.ext E1 A0.1 S_b1
                have A' : CHr Z EL s.vm s.heap vm0 h1 := A0.trans (CHr.ext E1 A0.1)
                replace S_b1 := S_b1'
                replace A0 := A'
                replace hk0 := Nat.le_trans hk0 E1.1
                replace O0 : Ext Z.heap h1 := ext_trans O0 E1
                replace K0 : Keep h0 h1 [] := K0.ext E1
                have F_value_b1 : Fld Z h1 b1 "java/lang/String" "value" "[B" .null := D1 (Or.inr (wq hw 23 rfl)) (ty := (.array .byte)) (by decide)
                have F_coder_b1 : Fld Z h1 b1 "java/lang/String" "coder" "B" (.int 0) := D1 (Or.inr (wq hw 24 rfl)) (ty := .byte) (by decide)
                refine OEndsH.st (S' := T1.setTop (mkF m 197 #[vr tc, vi ln] [(.int 6), (.ref b1), (.ref b1)])) (fun _ k => ?_) ?_
                · refine XS.dup X1.here hx rfl (hb hby d_4_194) rfl rfl ?_
                  refine XS.bipush X1.here hx rfl (hb hby d_4_195) ?_
                  exact k
                obtain ⟨T2, h2, k2, X2, e2, E2, A2, st2⟩ := newP X1 hx hZ (wq hw 0 rfl) e1 (g := (mkF m 197 #[vr tc, vi ln] [(.int 6), (.ref b1), (.ref b1)])) rfl (hb hby d_4_197) rfl (by decide) (cap := 6) (by decide) (by decide) (by decide) (by decide)
                obtain ⟨b2, g2⟩ : ∃ z, z = h1.size := ⟨_, rfl⟩
                rw [← g2] at A2 st2
                refine OEndsH.st st2 ?_
                have ne_b1_b2 : b1 ≠ b2 := Nat.ne_of_lt (Nat.lt_of_lt_of_le A1.lt (Nat.le_of_eq g2.symm))
                have ne_tc_b2 : tc ≠ b2 := Nat.ne_of_lt (Nat.lt_of_lt_of_le V_tc.lt (Nat.le_of_eq g2.symm))
                have ge_b2 : Z.heap.size ≤ b2 := Nat.le_trans O0.1 (Nat.le_of_eq g2.symm)
                have sz_b2 : h0.size ≤ b2 := Nat.le_trans K0.1 (Nat.le_of_eq g2.symm)
                have S_b2 : Safe Z EL vm0 h1 b2 := Safe.new (Nat.le_of_eq g2.symm)
                replace V_tc := V_tc.ext E2
                replace A1 := A1.ext E2
                replace F_value_b1 := F_value_b1.ext E2
                replace F_coder_b1 := F_coder_b1.ext E2
                have S_b1' : Safe Z EL vm0 h2 b1 := Safe.ext E2 A0.1 S_b1
                have S_b2' : Safe Z EL vm0 h2 b2 := Safe.ext E2 A0.1 S_b2
                have A' : CHr Z EL s.vm s.heap vm0 h2 := A0.trans (CHr.ext E2 A0.1)
                replace S_b1 := S_b1'
                replace S_b2 := S_b2'
                replace A0 := A'
                replace hk0 := Nat.le_trans hk0 E2.1
                replace O0 : Ext Z.heap h2 := ext_trans O0 E2
                replace K0 : Keep h0 h2 [] := K0.ext E2
                have V_b2 : Arv Z h2 b2 k2 .char (6 : Int32) [(.int 0), (.int 0), (.int 0), (.int 0), (.int 0), (.int 0)] (.int 0) := (Arv.new A2 (by decide)).pad (pad_rep [] (.int 0) 6)
                refine OEndsH.st (S' := T2.setTop (mkF m 203 #[vr tc, vi ln] [(.int 0), (.ref tc), (.int 0), (.ref b2), (.ref b2), (.ref b1), (.ref b1)])) (fun _ k => ?_) ?_
                · refine XS.dup X2.here hx rfl (hb hby d_4_199) rfl rfl ?_
                  refine XS.iconst X2.here hx rfl (hb hby d_4_200) ?_
                  refine XS.aloadN X2.here hx rfl (hb hby d_4_201) rfl rfl ?_
                  refine XS.iconst X2.here hx rfl (hb hby d_4_202) ?_
                  exact k
                obtain ⟨cl_tc_3, Ar_tc_3, q_tc_3, S_tc_3, N_tc_3, H_tc_3, G_tc_3⟩ := id V_tc
                refine OEndsH.st (S' := T2.setTop (mkF m 204 #[vr tc, vi ln] [(.int x0), (.int 0), (.ref b2), (.ref b2), (.ref b1), (.ref b1)])) (X2.caload hx (j := (0 : Int32)) (v := (.int x0)) (by rw [e2]; exact Ar_tc_3.1) (State.isArrayOf_alike hZ.alike Ar_tc_3.2.1) Ar_tc_3.2.2 (inb_of S_tc_3 ⟨by decide, by decide⟩) (H_tc_3.at (inb_of S_tc_3 ⟨by decide, by decide⟩) rfl) (g := (mkF m 203 #[vr tc, vi ln] [(.int 0), (.ref tc), (.int 0), (.ref b2), (.ref b2), (.ref b1), (.ref b1)])) rfl rfl (hb hby d_4_203)) ?_
                obtain ⟨cl_b2_4, Ar_b2_4, q_b2_4, S_b2_4, N_b2_4, H_b2_4, G_b2_4⟩ := V_b2
                obtain ⟨T4, h4, X4, e4, W4, st4⟩ := stC X2 hx hZ e2 Ar_b2_4 (j := (0 : Int32)) (inb_of S_b2_4 ⟨by decide, by decide⟩) (g := (mkF m 204 #[vr tc, vi ln] [(.int x0), (.int 0), (.ref b2), (.ref b2), (.ref b1), (.ref b1)])) rfl rfl (hb hby d_4_204)
                have V_b2_4 : Arv Z h4 b2 k2 .char (6 : Int32) [(.int (nar .char x0)), (.int 0), (.int 0), (.int 0), (.int 0), (.int 0)] (.int 0) := Arv.set Ar_b2_4 q_b2_4 S_b2_4 N_b2_4 H_b2_4 G_b2_4 (fits_nar_char _) W4 0 rfl (Nat.le_of_ble_eq_true rfl)
                refine OEndsH.st st4 ?_
                replace V_tc := V_tc.other W4 ne_tc_b2
                replace A1 := A1.wr W4
                replace F_value_b1 := F_value_b1.other W4 (Or.inl ne_b1_b2)
                replace F_coder_b1 := F_coder_b1.other W4 (Or.inl ne_b1_b2)
                have S_b1' : Safe Z EL vm0 h4 b1 := Safe.wr W4 S_b2 A0.1 S_b1
                have S_b2' : Safe Z EL vm0 h4 b2 := Safe.wr W4 S_b2 A0.1 S_b2
                have A' : CHr Z EL s.vm s.heap vm0 h4 := A0.trans (CHr.wr W4 S_b2 A0.1)
                replace S_b1 := S_b1'
                replace S_b2 := S_b2'
                replace A0 := A'
                replace hk0 := Nat.le_trans hk0 (Keep.of_wr W4).1
                replace O0 : Ext Z.heap h4 := ext_wr O0 W4 ge_b2
                replace N0 := Fr.snoc X4 N0 ge_b2
                replace K0 : Keep h0 h4 [] := K0.wr W4 (Or.inr sz_b2)
                refine OEndsH.st (S' := T4.setTop (mkF m 209 #[vr tc, vi ln] [(.int 1), (.ref tc), (.int 1), (.ref b2), (.ref b2), (.ref b1), (.ref b1)])) (fun _ k => ?_) ?_
                · refine XS.dup X4.here hx rfl (hb hby d_4_205) rfl rfl ?_
                  refine XS.iconst X4.here hx rfl (hb hby d_4_206) ?_
                  refine XS.aloadN X4.here hx rfl (hb hby d_4_207) rfl rfl ?_
                  refine XS.iconst X4.here hx rfl (hb hby d_4_208) ?_
                  exact k
                obtain ⟨cl_tc_5, Ar_tc_5, q_tc_5, S_tc_5, N_tc_5, H_tc_5, G_tc_5⟩ := id V_tc
                refine OEndsH.st (S' := T4.setTop (mkF m 210 #[vr tc, vi ln] [(.int x1), (.int 1), (.ref b2), (.ref b2), (.ref b1), (.ref b1)])) (X4.caload hx (j := (1 : Int32)) (v := (.int x1)) (by rw [e4]; exact Ar_tc_5.1) (State.isArrayOf_alike hZ.alike Ar_tc_5.2.1) Ar_tc_5.2.2 (inb_of S_tc_5 ⟨by decide, by decide⟩) (H_tc_5.at (inb_of S_tc_5 ⟨by decide, by decide⟩) rfl) (g := (mkF m 209 #[vr tc, vi ln] [(.int 1), (.ref tc), (.int 1), (.ref b2), (.ref b2), (.ref b1), (.ref b1)])) rfl rfl (hb hby d_4_209)) ?_
                obtain ⟨cl_b2_6, Ar_b2_6, q_b2_6, S_b2_6, N_b2_6, H_b2_6, G_b2_6⟩ := V_b2_4
                obtain ⟨T6, h6, X6, e6, W6, st6⟩ := stC X4 hx hZ e4 Ar_b2_6 (j := (1 : Int32)) (inb_of S_b2_6 ⟨by decide, by decide⟩) (g := (mkF m 210 #[vr tc, vi ln] [(.int x1), (.int 1), (.ref b2), (.ref b2), (.ref b1), (.ref b1)])) rfl rfl (hb hby d_4_210)
                have V_b2_6 : Arv Z h6 b2 k2 .char (6 : Int32) [(.int (nar .char x0)), (.int (nar .char x1)), (.int 0), (.int 0), (.int 0), (.int 0)] (.int 0) := Arv.set Ar_b2_6 q_b2_6 S_b2_6 N_b2_6 H_b2_6 G_b2_6 (fits_nar_char _) W6 1 rfl (Nat.le_of_ble_eq_true rfl)
                refine OEndsH.st st6 ?_
                replace V_tc := V_tc.other W6 ne_tc_b2
                replace A1 := A1.wr W6
                replace F_value_b1 := F_value_b1.other W6 (Or.inl ne_b1_b2)
                replace F_coder_b1 := F_coder_b1.other W6 (Or.inl ne_b1_b2)
                have S_b1' : Safe Z EL vm0 h6 b1 := Safe.wr W6 S_b2 A0.1 S_b1
                have S_b2' : Safe Z EL vm0 h6 b2 := Safe.wr W6 S_b2 A0.1 S_b2
                have A' : CHr Z EL s.vm s.heap vm0 h6 := A0.trans (CHr.wr W6 S_b2 A0.1)
                replace S_b1 := S_b1'
                replace S_b2 := S_b2'
                replace A0 := A'
                replace hk0 := Nat.le_trans hk0 (Keep.of_wr W6).1
                replace O0 : Ext Z.heap h6 := ext_wr O0 W6 ge_b2
                replace N0 := Fr.snoc X6 N0 ge_b2
                replace K0 : Keep h0 h6 [] := K0.wr W6 (Or.inr sz_b2)
                refine OEndsH.st (S' := T6.setTop (mkF m 215 #[vr tc, vi ln] [(.int 2), (.ref tc), (.int 2), (.ref b2), (.ref b2), (.ref b1), (.ref b1)])) (fun _ k => ?_) ?_
                · refine XS.dup X6.here hx rfl (hb hby d_4_211) rfl rfl ?_
                  refine XS.iconst X6.here hx rfl (hb hby d_4_212) ?_
                  refine XS.aloadN X6.here hx rfl (hb hby d_4_213) rfl rfl ?_
                  refine XS.iconst X6.here hx rfl (hb hby d_4_214) ?_
                  exact k
                obtain ⟨cl_tc_7, Ar_tc_7, q_tc_7, S_tc_7, N_tc_7, H_tc_7, G_tc_7⟩ := id V_tc
                refine OEndsH.st (S' := T6.setTop (mkF m 216 #[vr tc, vi ln] [(.int x2), (.int 2), (.ref b2), (.ref b2), (.ref b1), (.ref b1)])) (X6.caload hx (j := (2 : Int32)) (v := (.int x2)) (by rw [e6]; exact Ar_tc_7.1) (State.isArrayOf_alike hZ.alike Ar_tc_7.2.1) Ar_tc_7.2.2 (inb_of S_tc_7 ⟨by decide, by decide⟩) (H_tc_7.at (inb_of S_tc_7 ⟨by decide, by decide⟩) rfl) (g := (mkF m 215 #[vr tc, vi ln] [(.int 2), (.ref tc), (.int 2), (.ref b2), (.ref b2), (.ref b1), (.ref b1)])) rfl rfl (hb hby d_4_215)) ?_
                obtain ⟨cl_b2_8, Ar_b2_8, q_b2_8, S_b2_8, N_b2_8, H_b2_8, G_b2_8⟩ := V_b2_6
                obtain ⟨T8, h8, X8, e8, W8, st8⟩ := stC X6 hx hZ e6 Ar_b2_8 (j := (2 : Int32)) (inb_of S_b2_8 ⟨by decide, by decide⟩) (g := (mkF m 216 #[vr tc, vi ln] [(.int x2), (.int 2), (.ref b2), (.ref b2), (.ref b1), (.ref b1)])) rfl rfl (hb hby d_4_216)
                have V_b2_8 : Arv Z h8 b2 k2 .char (6 : Int32) [(.int (nar .char x0)), (.int (nar .char x1)), (.int (nar .char x2)), (.int 0), (.int 0), (.int 0)] (.int 0) := Arv.set Ar_b2_8 q_b2_8 S_b2_8 N_b2_8 H_b2_8 G_b2_8 (fits_nar_char _) W8 2 rfl (Nat.le_of_ble_eq_true rfl)
                refine OEndsH.st st8 ?_
                replace V_tc := V_tc.other W8 ne_tc_b2
                replace A1 := A1.wr W8
                replace F_value_b1 := F_value_b1.other W8 (Or.inl ne_b1_b2)
                replace F_coder_b1 := F_coder_b1.other W8 (Or.inl ne_b1_b2)
                have S_b1' : Safe Z EL vm0 h8 b1 := Safe.wr W8 S_b2 A0.1 S_b1
                have S_b2' : Safe Z EL vm0 h8 b2 := Safe.wr W8 S_b2 A0.1 S_b2
                have A' : CHr Z EL s.vm s.heap vm0 h8 := A0.trans (CHr.wr W8 S_b2 A0.1)
                replace S_b1 := S_b1'
                replace S_b2 := S_b2'
                replace A0 := A'
                replace hk0 := Nat.le_trans hk0 (Keep.of_wr W8).1
                replace O0 : Ext Z.heap h8 := ext_wr O0 W8 ge_b2
                replace N0 := Fr.snoc X8 N0 ge_b2
                replace K0 : Keep h0 h8 [] := K0.wr W8 (Or.inr sz_b2)
                refine OEndsH.st (S' := T8.setTop (mkF m 221 #[vr tc, vi ln] [(.int 3), (.ref tc), (.int 3), (.ref b2), (.ref b2), (.ref b1), (.ref b1)])) (fun _ k => ?_) ?_
                · refine XS.dup X8.here hx rfl (hb hby d_4_217) rfl rfl ?_
                  refine XS.iconst X8.here hx rfl (hb hby d_4_218) ?_
                  refine XS.aloadN X8.here hx rfl (hb hby d_4_219) rfl rfl ?_
                  refine XS.iconst X8.here hx rfl (hb hby d_4_220) ?_
                  exact k
                obtain ⟨cl_tc_9, Ar_tc_9, q_tc_9, S_tc_9, N_tc_9, H_tc_9, G_tc_9⟩ := id V_tc
                refine OEndsH.st (S' := T8.setTop (mkF m 222 #[vr tc, vi ln] [(.int x3), (.int 3), (.ref b2), (.ref b2), (.ref b1), (.ref b1)])) (X8.caload hx (j := (3 : Int32)) (v := (.int x3)) (by rw [e8]; exact Ar_tc_9.1) (State.isArrayOf_alike hZ.alike Ar_tc_9.2.1) Ar_tc_9.2.2 (inb_of S_tc_9 ⟨by decide, by decide⟩) (H_tc_9.at (inb_of S_tc_9 ⟨by decide, by decide⟩) rfl) (g := (mkF m 221 #[vr tc, vi ln] [(.int 3), (.ref tc), (.int 3), (.ref b2), (.ref b2), (.ref b1), (.ref b1)])) rfl rfl (hb hby d_4_221)) ?_
                obtain ⟨cl_b2_10, Ar_b2_10, q_b2_10, S_b2_10, N_b2_10, H_b2_10, G_b2_10⟩ := V_b2_8
                obtain ⟨T10, h10, X10, e10, W10, st10⟩ := stC X8 hx hZ e8 Ar_b2_10 (j := (3 : Int32)) (inb_of S_b2_10 ⟨by decide, by decide⟩) (g := (mkF m 222 #[vr tc, vi ln] [(.int x3), (.int 3), (.ref b2), (.ref b2), (.ref b1), (.ref b1)])) rfl rfl (hb hby d_4_222)
                have V_b2_10 : Arv Z h10 b2 k2 .char (6 : Int32) [(.int (nar .char x0)), (.int (nar .char x1)), (.int (nar .char x2)), (.int (nar .char x3)), (.int 0), (.int 0)] (.int 0) := Arv.set Ar_b2_10 q_b2_10 S_b2_10 N_b2_10 H_b2_10 G_b2_10 (fits_nar_char _) W10 3 rfl (Nat.le_of_ble_eq_true rfl)
                refine OEndsH.st st10 ?_
                replace V_tc := V_tc.other W10 ne_tc_b2
                replace A1 := A1.wr W10
                replace F_value_b1 := F_value_b1.other W10 (Or.inl ne_b1_b2)
                replace F_coder_b1 := F_coder_b1.other W10 (Or.inl ne_b1_b2)
                have S_b1' : Safe Z EL vm0 h10 b1 := Safe.wr W10 S_b2 A0.1 S_b1
                have S_b2' : Safe Z EL vm0 h10 b2 := Safe.wr W10 S_b2 A0.1 S_b2
                have A' : CHr Z EL s.vm s.heap vm0 h10 := A0.trans (CHr.wr W10 S_b2 A0.1)
                replace S_b1 := S_b1'
                replace S_b2 := S_b2'
                replace A0 := A'
                replace hk0 := Nat.le_trans hk0 (Keep.of_wr W10).1
                replace O0 : Ext Z.heap h10 := ext_wr O0 W10 ge_b2
                replace N0 := Fr.snoc X10 N0 ge_b2
                replace K0 : Keep h0 h10 [] := K0.wr W10 (Or.inr sz_b2)
                refine OEndsH.st (S' := T10.setTop (mkF m 227 #[vr tc, vi ln] [(.int 4), (.ref tc), (.int 4), (.ref b2), (.ref b2), (.ref b1), (.ref b1)])) (fun _ k => ?_) ?_
                · refine XS.dup X10.here hx rfl (hb hby d_4_223) rfl rfl ?_
                  refine XS.iconst X10.here hx rfl (hb hby d_4_224) ?_
                  refine XS.aloadN X10.here hx rfl (hb hby d_4_225) rfl rfl ?_
                  refine XS.iconst X10.here hx rfl (hb hby d_4_226) ?_
                  exact k
                obtain ⟨cl_tc_11, Ar_tc_11, q_tc_11, S_tc_11, N_tc_11, H_tc_11, G_tc_11⟩ := id V_tc
                refine OEndsH.st (S' := T10.setTop (mkF m 228 #[vr tc, vi ln] [(.int x4), (.int 4), (.ref b2), (.ref b2), (.ref b1), (.ref b1)])) (X10.caload hx (j := (4 : Int32)) (v := (.int x4)) (by rw [e10]; exact Ar_tc_11.1) (State.isArrayOf_alike hZ.alike Ar_tc_11.2.1) Ar_tc_11.2.2 (inb_of S_tc_11 ⟨by decide, by decide⟩) (H_tc_11.at (inb_of S_tc_11 ⟨by decide, by decide⟩) rfl) (g := (mkF m 227 #[vr tc, vi ln] [(.int 4), (.ref tc), (.int 4), (.ref b2), (.ref b2), (.ref b1), (.ref b1)])) rfl rfl (hb hby d_4_227)) ?_
                obtain ⟨cl_b2_12, Ar_b2_12, q_b2_12, S_b2_12, N_b2_12, H_b2_12, G_b2_12⟩ := V_b2_10
                obtain ⟨T12, h12, X12, e12, W12, st12⟩ := stC X10 hx hZ e10 Ar_b2_12 (j := (4 : Int32)) (inb_of S_b2_12 ⟨by decide, by decide⟩) (g := (mkF m 228 #[vr tc, vi ln] [(.int x4), (.int 4), (.ref b2), (.ref b2), (.ref b1), (.ref b1)])) rfl rfl (hb hby d_4_228)
                have V_b2_12 : Arv Z h12 b2 k2 .char (6 : Int32) [(.int (nar .char x0)), (.int (nar .char x1)), (.int (nar .char x2)), (.int (nar .char x3)), (.int (nar .char x4)), (.int 0)] (.int 0) := Arv.set Ar_b2_12 q_b2_12 S_b2_12 N_b2_12 H_b2_12 G_b2_12 (fits_nar_char _) W12 4 rfl (Nat.le_of_ble_eq_true rfl)
                refine OEndsH.st st12 ?_
                replace V_tc := V_tc.other W12 ne_tc_b2
                replace A1 := A1.wr W12
                replace F_value_b1 := F_value_b1.other W12 (Or.inl ne_b1_b2)
                replace F_coder_b1 := F_coder_b1.other W12 (Or.inl ne_b1_b2)
                have S_b1' : Safe Z EL vm0 h12 b1 := Safe.wr W12 S_b2 A0.1 S_b1
                have S_b2' : Safe Z EL vm0 h12 b2 := Safe.wr W12 S_b2 A0.1 S_b2
                have A' : CHr Z EL s.vm s.heap vm0 h12 := A0.trans (CHr.wr W12 S_b2 A0.1)
                replace S_b1 := S_b1'
                replace S_b2 := S_b2'
                replace A0 := A'
                replace hk0 := Nat.le_trans hk0 (Keep.of_wr W12).1
                replace O0 : Ext Z.heap h12 := ext_wr O0 W12 ge_b2
                replace N0 := Fr.snoc X12 N0 ge_b2
                replace K0 : Keep h0 h12 [] := K0.wr W12 (Or.inr sz_b2)
                refine OEndsH.st (S' := T12.setTop (mkF m 233 #[vr tc, vi ln] [(.int 5), (.ref tc), (.int 5), (.ref b2), (.ref b2), (.ref b1), (.ref b1)])) (fun _ k => ?_) ?_
                · refine XS.dup X12.here hx rfl (hb hby d_4_229) rfl rfl ?_
                  refine XS.iconst X12.here hx rfl (hb hby d_4_230) ?_
                  refine XS.aloadN X12.here hx rfl (hb hby d_4_231) rfl rfl ?_
                  refine XS.iconst X12.here hx rfl (hb hby d_4_232) ?_
                  exact k
                obtain ⟨cl_tc_13, Ar_tc_13, q_tc_13, S_tc_13, N_tc_13, H_tc_13, G_tc_13⟩ := id V_tc
                refine OEndsH.st (S' := T12.setTop (mkF m 234 #[vr tc, vi ln] [(.int x5), (.int 5), (.ref b2), (.ref b2), (.ref b1), (.ref b1)])) (X12.caload hx (j := (5 : Int32)) (v := (.int x5)) (by rw [e12]; exact Ar_tc_13.1) (State.isArrayOf_alike hZ.alike Ar_tc_13.2.1) Ar_tc_13.2.2 (inb_of S_tc_13 ⟨by decide, by decide⟩) (H_tc_13.at (inb_of S_tc_13 ⟨by decide, by decide⟩) rfl) (g := (mkF m 233 #[vr tc, vi ln] [(.int 5), (.ref tc), (.int 5), (.ref b2), (.ref b2), (.ref b1), (.ref b1)])) rfl rfl (hb hby d_4_233)) ?_
                obtain ⟨cl_b2_14, Ar_b2_14, q_b2_14, S_b2_14, N_b2_14, H_b2_14, G_b2_14⟩ := V_b2_12
                obtain ⟨T14, h14, X14, e14, W14, st14⟩ := stC X12 hx hZ e12 Ar_b2_14 (j := (5 : Int32)) (inb_of S_b2_14 ⟨by decide, by decide⟩) (g := (mkF m 234 #[vr tc, vi ln] [(.int x5), (.int 5), (.ref b2), (.ref b2), (.ref b1), (.ref b1)])) rfl rfl (hb hby d_4_234)
                have V_b2_14 : Arv Z h14 b2 k2 .char (6 : Int32) [(.int (nar .char x0)), (.int (nar .char x1)), (.int (nar .char x2)), (.int (nar .char x3)), (.int (nar .char x4)), (.int (nar .char x5))] (.int 0) := Arv.set Ar_b2_14 q_b2_14 S_b2_14 N_b2_14 H_b2_14 G_b2_14 (fits_nar_char _) W14 5 rfl (Nat.le_of_ble_eq_true rfl)
                refine OEndsH.st st14 ?_
                replace V_tc := V_tc.other W14 ne_tc_b2
                replace A1 := A1.wr W14
                replace F_value_b1 := F_value_b1.other W14 (Or.inl ne_b1_b2)
                replace F_coder_b1 := F_coder_b1.other W14 (Or.inl ne_b1_b2)
                have S_b1' : Safe Z EL vm0 h14 b1 := Safe.wr W14 S_b2 A0.1 S_b1
                have S_b2' : Safe Z EL vm0 h14 b2 := Safe.wr W14 S_b2 A0.1 S_b2
                have A' : CHr Z EL s.vm s.heap vm0 h14 := A0.trans (CHr.wr W14 S_b2 A0.1)
                replace S_b1 := S_b1'
                replace S_b2 := S_b2'
                replace A0 := A'
                replace hk0 := Nat.le_trans hk0 (Keep.of_wr W14).1
                replace O0 : Ext Z.heap h14 := ext_wr O0 W14 ge_b2
                replace N0 := Fr.snoc X14 N0 ge_b2
                replace K0 : Keep h0 h14 [] := K0.wr W14 (Or.inr sz_b2)
                simp only [nar_char (x := x0) hx0, nar_char (x := x1) hx1, nar_char (x := x2) hx2, nar_char (x := x3) hx3, nar_char (x := x4) hx4, nar_char (x := x5) hx5] at V_b2_14
                have hp15 : ∀ c ∈ ([x0, x1, x2, x3, x4, x5] : List Int32), ¬ c < 0 ∧ ¬ (255 : Int32) < c := by
                  intro c hc; simp only [List.mem_cons, List.not_mem_nil, or_false] at hc
                  rcases hc with rfl | rfl | rfl | rfl | rfl | rfl
                  · exact hx0
                  · exact hx1
                  · exact hx2
                  · exact hx3
                  · exact hx4
                  · exact hx5
                obtain ⟨_, T16, h16, L16, X16, e16, hQ16, st16⟩ := specC X14 hx hZ rfl hown (wq hw 11 rfl) (wq hw 12 rfl) (wq hw 13 rfl) (by decide) (kc := 1) (ks := 6) (SB.of (Q := StrChars.Road.QV Z b1 (6 : Int32) (([x0, x1, x2, x3, x4, x5] : List Int32).map (fun c => c.toInt8.toInt32)) h14 Z.heap.size) (StrChars.Road.backV (W := 1) hZ hws (kI := 4) (wq hw 9 rfl) (cs := ([x0, x1, x2, x3, x4, x5] : List Int32)) (bs := (([x0, x1, x2, x3, x4, x5] : List Int32).map (fun c => c.toInt8.toInt32))) (n := 6) ge_b1 O0.1 A1 F_value_b1 F_coder_b1 V_b2_14 (S_CS.ext O0) hcz rfl rfl (by decide) (by decide) hp15 rfl (by decide) (by decide))) e14 (a := b1) (g := (mkF m 235 #[vr tc, vi ln] [(.ref b2), (.ref b1), (.ref b1)])) rfl (by rw [hml]; rfl) (argsL := [(.ref b2)]) (rest := [(.ref b1)]) (lenOf pd_2 rfl) rfl (by show 2 * 0 + _ ≤ _; exact Nat.le_of_eq rfl) (hb hby d_4_235) (by decide) (by decide)
                obtain ⟨rfl, Nq16, Kq16, Eq16, Fc16, t16, kb16, gq16, szq16, nq16, Fv16, V16⟩ := hQ16
                refine OEndsH.st st16 ?_
                replace N0 := Fr.app N0 Nq16
                have ne_b1_t16 : b1 ≠ t16 := Nat.ne_of_lt (Nat.lt_of_lt_of_le A1.lt szq16)
                have ne_b2_t16 : b2 ≠ t16 := Nat.ne_of_lt (Nat.lt_of_lt_of_le V_b2_14.lt szq16)
                have ne_tc_t16 : tc ≠ t16 := Nat.ne_of_lt (Nat.lt_of_lt_of_le V_tc.lt szq16)
                have ge_t16 : Z.heap.size ≤ t16 := Nat.le_trans O0.1 szq16
                have S_t16 : Safe Z EL vm0 h14 t16 := Safe.new szq16
                have sz_t16 : h0.size ≤ t16 := Nat.le_trans K0.1 szq16
                replace V_tc := V_tc.keep Kq16 (ninS ne_tc_b1 nin0)
                replace A1 := A1.keep Kq16
                replace V_b2_14 := V_b2_14.keep Kq16 (ninS (Ne.symm ne_b1_b2) nin0)
                have S_b1' : Safe Z EL vm0 h16 b1 := Safe.keep Kq16 (sfS S_b1 sf0) A0.1 S_b1
                have S_b2' : Safe Z EL vm0 h16 b2 := Safe.keep Kq16 (sfS S_b1 sf0) A0.1 S_b2
                have S_t16' : Safe Z EL vm0 h16 t16 := Safe.keep Kq16 (sfS S_b1 sf0) A0.1 S_t16
                have A' : CHr Z EL s.vm s.heap vm0 h16 := A0.trans (CHr.keep Kq16 (sfS S_b1 sf0) A0.1)
                replace S_b1 := S_b1'
                replace S_b2 := S_b2'
                replace S_t16 := S_t16'
                replace A0 := A'
                replace hk0 := Nat.le_trans hk0 Kq16.1
                replace O0 : Ext Z.heap h16 := ext_keep O0 Kq16 (allS ge_b1 all0)
                replace K0 : Keep h0 h16 [] := K0.trans Kq16 (allS (Or.inr sz_b1) all0)
                replace V16 : Arv Z h16 t16 kb16 .byte (Int32.ofNat 6) [(.int (x0).toInt8.toInt32), (.int (x1).toInt8.toInt32), (.int (x2).toInt8.toInt32), (.int (x3).toInt8.toInt32), (.int (x4).toInt8.toInt32), (.int (x5).toInt8.toInt32)] (.int 0) := V16
                clear V_b2_14
                exact OEndsH.ret X16 hx hZ hEL e16 hS0 hk0 A0 hret hlk rfl (Or.inr (Or.inr (Or.inr (Or.inr ⟨rfl, rfl, rfl⟩)))) (hb hby d_4_238) (by decide) (by decide) ⟨b1, 6, rfl, N0, K0, (by decide), q6, A1, Fc16, t16, _, Fv16, V16⟩
              · refine OEndsH.st (S' := T0.setTop (mkF m 242 #[vr tc, vi ln] [(.int 7), (.int ln)])) (fun _ k => ?_) ?_
                · refine XS.icmpYes X0.here hx rfl (pc0 := 188) (pc' := 239) rfl (hb hby d_4_188) rfl (feq q6).2 (by decide) (by decide) ?_
                  refine XS.iloadN X0.here hx rfl (hb hby d_4_239) rfl ?_
                  refine XS.bipush X0.here hx rfl (hb hby d_4_240) ?_
                  exact k
                rcases Classical.em (ln = (7 : Int32)) with q7 | q7
                · refine OEndsH.st (S' := T0.setTop (mkF m 245 #[vr tc, vi ln] [])) (fun _ k => ?_) ?_
                  · refine XS.icmpNo X0.here hx rfl (hb hby d_4_242) rfl (teq q7).2 ?_
                    exact k
                  obtain ⟨T1, h1, X1, e1, E1, A1, D1, U1, st1⟩ := newO X0 hx hZ hown (wq hw 8 rfl) (wq hw 9 rfl) (wq hw 10 rfl) e0 (g := (mkF m 245 #[vr tc, vi ln] [])) rfl (hb hby d_4_245) (by decide) (by decide)
                  obtain ⟨b1, g1⟩ : ∃ z, z = h0.size := ⟨_, rfl⟩
                  rw [← g1] at A1 D1 U1 st1
                  refine OEndsH.st st1 ?_
                  have ne_tc_b1 : tc ≠ b1 := Nat.ne_of_lt (Nat.lt_of_lt_of_le V_tc.lt (Nat.le_of_eq g1.symm))
                  have ge_b1 : Z.heap.size ≤ b1 := Nat.le_trans O0.1 (Nat.le_of_eq g1.symm)
                  have sz_b1 : h0.size ≤ b1 := Nat.le_trans K0.1 (Nat.le_of_eq g1.symm)
                  have S_b1 : Safe Z EL vm0 h0 b1 := Safe.new (Nat.le_of_eq g1.symm)
                  replace V_tc := V_tc.ext E1
                  have S_b1' : Safe Z EL vm0 h1 b1 := Safe.ext E1 A0.1 S_b1
                  have A' : CHr Z EL s.vm s.heap vm0 h1 := A0.trans (CHr.ext E1 A0.1)
                  replace S_b1 := S_b1'
                  replace A0 := A'
                  replace hk0 := Nat.le_trans hk0 E1.1
                  replace O0 : Ext Z.heap h1 := ext_trans O0 E1
                  replace K0 : Keep h0 h1 [] := K0.ext E1
                  have F_value_b1 : Fld Z h1 b1 "java/lang/String" "value" "[B" .null := D1 (Or.inr (wq hw 23 rfl)) (ty := (.array .byte)) (by decide)
                  have F_coder_b1 : Fld Z h1 b1 "java/lang/String" "coder" "B" (.int 0) := D1 (Or.inr (wq hw 24 rfl)) (ty := .byte) (by decide)
                  refine OEndsH.st (S' := T1.setTop (mkF m 251 #[vr tc, vi ln] [(.int 7), (.ref b1), (.ref b1)])) (fun _ k => ?_) ?_
                  · refine XS.dup X1.here hx rfl (hb hby d_4_248) rfl rfl ?_
                    refine XS.bipush X1.here hx rfl (hb hby d_4_249) ?_
                    exact k
                  obtain ⟨T2, h2, k2, X2, e2, E2, A2, st2⟩ := newP X1 hx hZ (wq hw 0 rfl) e1 (g := (mkF m 251 #[vr tc, vi ln] [(.int 7), (.ref b1), (.ref b1)])) rfl (hb hby d_4_251) rfl (by decide) (cap := 7) (by decide) (by decide) (by decide) (by decide)
                  obtain ⟨b2, g2⟩ : ∃ z, z = h1.size := ⟨_, rfl⟩
                  rw [← g2] at A2 st2
                  refine OEndsH.st st2 ?_
                  have ne_b1_b2 : b1 ≠ b2 := Nat.ne_of_lt (Nat.lt_of_lt_of_le A1.lt (Nat.le_of_eq g2.symm))
                  have ne_tc_b2 : tc ≠ b2 := Nat.ne_of_lt (Nat.lt_of_lt_of_le V_tc.lt (Nat.le_of_eq g2.symm))
                  have ge_b2 : Z.heap.size ≤ b2 := Nat.le_trans O0.1 (Nat.le_of_eq g2.symm)
                  have sz_b2 : h0.size ≤ b2 := Nat.le_trans K0.1 (Nat.le_of_eq g2.symm)
                  have S_b2 : Safe Z EL vm0 h1 b2 := Safe.new (Nat.le_of_eq g2.symm)
                  replace V_tc := V_tc.ext E2
                  replace A1 := A1.ext E2
                  replace F_value_b1 := F_value_b1.ext E2
                  replace F_coder_b1 := F_coder_b1.ext E2
                  have S_b1' : Safe Z EL vm0 h2 b1 := Safe.ext E2 A0.1 S_b1
                  have S_b2' : Safe Z EL vm0 h2 b2 := Safe.ext E2 A0.1 S_b2
                  have A' : CHr Z EL s.vm s.heap vm0 h2 := A0.trans (CHr.ext E2 A0.1)
                  replace S_b1 := S_b1'
                  replace S_b2 := S_b2'
                  replace A0 := A'
                  replace hk0 := Nat.le_trans hk0 E2.1
                  replace O0 : Ext Z.heap h2 := ext_trans O0 E2
                  replace K0 : Keep h0 h2 [] := K0.ext E2
                  have V_b2 : Arv Z h2 b2 k2 .char (7 : Int32) [(.int 0), (.int 0), (.int 0), (.int 0), (.int 0), (.int 0), (.int 0)] (.int 0) := (Arv.new A2 (by decide)).pad (pad_rep [] (.int 0) 7)
                  refine OEndsH.st (S' := T2.setTop (mkF m 257 #[vr tc, vi ln] [(.int 0), (.ref tc), (.int 0), (.ref b2), (.ref b2), (.ref b1), (.ref b1)])) (fun _ k => ?_) ?_
                  · refine XS.dup X2.here hx rfl (hb hby d_4_253) rfl rfl ?_
                    refine XS.iconst X2.here hx rfl (hb hby d_4_254) ?_
                    refine XS.aloadN X2.here hx rfl (hb hby d_4_255) rfl rfl ?_
                    refine XS.iconst X2.here hx rfl (hb hby d_4_256) ?_
                    exact k
                  obtain ⟨cl_tc_3, Ar_tc_3, q_tc_3, S_tc_3, N_tc_3, H_tc_3, G_tc_3⟩ := id V_tc
                  refine OEndsH.st (S' := T2.setTop (mkF m 258 #[vr tc, vi ln] [(.int x0), (.int 0), (.ref b2), (.ref b2), (.ref b1), (.ref b1)])) (X2.caload hx (j := (0 : Int32)) (v := (.int x0)) (by rw [e2]; exact Ar_tc_3.1) (State.isArrayOf_alike hZ.alike Ar_tc_3.2.1) Ar_tc_3.2.2 (inb_of S_tc_3 ⟨by decide, by decide⟩) (H_tc_3.at (inb_of S_tc_3 ⟨by decide, by decide⟩) rfl) (g := (mkF m 257 #[vr tc, vi ln] [(.int 0), (.ref tc), (.int 0), (.ref b2), (.ref b2), (.ref b1), (.ref b1)])) rfl rfl (hb hby d_4_257)) ?_
                  obtain ⟨cl_b2_4, Ar_b2_4, q_b2_4, S_b2_4, N_b2_4, H_b2_4, G_b2_4⟩ := V_b2
                  obtain ⟨T4, h4, X4, e4, W4, st4⟩ := stC X2 hx hZ e2 Ar_b2_4 (j := (0 : Int32)) (inb_of S_b2_4 ⟨by decide, by decide⟩) (g := (mkF m 258 #[vr tc, vi ln] [(.int x0), (.int 0), (.ref b2), (.ref b2), (.ref b1), (.ref b1)])) rfl rfl (hb hby d_4_258)
                  have V_b2_4 : Arv Z h4 b2 k2 .char (7 : Int32) [(.int (nar .char x0)), (.int 0), (.int 0), (.int 0), (.int 0), (.int 0), (.int 0)] (.int 0) := Arv.set Ar_b2_4 q_b2_4 S_b2_4 N_b2_4 H_b2_4 G_b2_4 (fits_nar_char _) W4 0 rfl (Nat.le_of_ble_eq_true rfl)
                  refine OEndsH.st st4 ?_
                  replace V_tc := V_tc.other W4 ne_tc_b2
                  replace A1 := A1.wr W4
                  replace F_value_b1 := F_value_b1.other W4 (Or.inl ne_b1_b2)
                  replace F_coder_b1 := F_coder_b1.other W4 (Or.inl ne_b1_b2)
                  have S_b1' : Safe Z EL vm0 h4 b1 := Safe.wr W4 S_b2 A0.1 S_b1
                  have S_b2' : Safe Z EL vm0 h4 b2 := Safe.wr W4 S_b2 A0.1 S_b2
                  have A' : CHr Z EL s.vm s.heap vm0 h4 := A0.trans (CHr.wr W4 S_b2 A0.1)
                  replace S_b1 := S_b1'
                  replace S_b2 := S_b2'
                  replace A0 := A'
                  replace hk0 := Nat.le_trans hk0 (Keep.of_wr W4).1
                  replace O0 : Ext Z.heap h4 := ext_wr O0 W4 ge_b2
                  replace N0 := Fr.snoc X4 N0 ge_b2
                  replace K0 : Keep h0 h4 [] := K0.wr W4 (Or.inr sz_b2)
                  refine OEndsH.st (S' := T4.setTop (mkF m 263 #[vr tc, vi ln] [(.int 1), (.ref tc), (.int 1), (.ref b2), (.ref b2), (.ref b1), (.ref b1)])) (fun _ k => ?_) ?_
                  · refine XS.dup X4.here hx rfl (hb hby d_4_259) rfl rfl ?_
                    refine XS.iconst X4.here hx rfl (hb hby d_4_260) ?_
                    refine XS.aloadN X4.here hx rfl (hb hby d_4_261) rfl rfl ?_
                    refine XS.iconst X4.here hx rfl (hb hby d_4_262) ?_
                    exact k
                  obtain ⟨cl_tc_5, Ar_tc_5, q_tc_5, S_tc_5, N_tc_5, H_tc_5, G_tc_5⟩ := id V_tc
                  refine OEndsH.st (S' := T4.setTop (mkF m 264 #[vr tc, vi ln] [(.int x1), (.int 1), (.ref b2), (.ref b2), (.ref b1), (.ref b1)])) (X4.caload hx (j := (1 : Int32)) (v := (.int x1)) (by rw [e4]; exact Ar_tc_5.1) (State.isArrayOf_alike hZ.alike Ar_tc_5.2.1) Ar_tc_5.2.2 (inb_of S_tc_5 ⟨by decide, by decide⟩) (H_tc_5.at (inb_of S_tc_5 ⟨by decide, by decide⟩) rfl) (g := (mkF m 263 #[vr tc, vi ln] [(.int 1), (.ref tc), (.int 1), (.ref b2), (.ref b2), (.ref b1), (.ref b1)])) rfl rfl (hb hby d_4_263)) ?_
                  obtain ⟨cl_b2_6, Ar_b2_6, q_b2_6, S_b2_6, N_b2_6, H_b2_6, G_b2_6⟩ := V_b2_4
                  obtain ⟨T6, h6, X6, e6, W6, st6⟩ := stC X4 hx hZ e4 Ar_b2_6 (j := (1 : Int32)) (inb_of S_b2_6 ⟨by decide, by decide⟩) (g := (mkF m 264 #[vr tc, vi ln] [(.int x1), (.int 1), (.ref b2), (.ref b2), (.ref b1), (.ref b1)])) rfl rfl (hb hby d_4_264)
                  have V_b2_6 : Arv Z h6 b2 k2 .char (7 : Int32) [(.int (nar .char x0)), (.int (nar .char x1)), (.int 0), (.int 0), (.int 0), (.int 0), (.int 0)] (.int 0) := Arv.set Ar_b2_6 q_b2_6 S_b2_6 N_b2_6 H_b2_6 G_b2_6 (fits_nar_char _) W6 1 rfl (Nat.le_of_ble_eq_true rfl)
                  refine OEndsH.st st6 ?_
                  replace V_tc := V_tc.other W6 ne_tc_b2
                  replace A1 := A1.wr W6
                  replace F_value_b1 := F_value_b1.other W6 (Or.inl ne_b1_b2)
                  replace F_coder_b1 := F_coder_b1.other W6 (Or.inl ne_b1_b2)
                  have S_b1' : Safe Z EL vm0 h6 b1 := Safe.wr W6 S_b2 A0.1 S_b1
                  have S_b2' : Safe Z EL vm0 h6 b2 := Safe.wr W6 S_b2 A0.1 S_b2
                  have A' : CHr Z EL s.vm s.heap vm0 h6 := A0.trans (CHr.wr W6 S_b2 A0.1)
                  replace S_b1 := S_b1'
                  replace S_b2 := S_b2'
                  replace A0 := A'
                  replace hk0 := Nat.le_trans hk0 (Keep.of_wr W6).1
                  replace O0 : Ext Z.heap h6 := ext_wr O0 W6 ge_b2
                  replace N0 := Fr.snoc X6 N0 ge_b2
                  replace K0 : Keep h0 h6 [] := K0.wr W6 (Or.inr sz_b2)
                  refine OEndsH.st (S' := T6.setTop (mkF m 269 #[vr tc, vi ln] [(.int 2), (.ref tc), (.int 2), (.ref b2), (.ref b2), (.ref b1), (.ref b1)])) (fun _ k => ?_) ?_
                  · refine XS.dup X6.here hx rfl (hb hby d_4_265) rfl rfl ?_
                    refine XS.iconst X6.here hx rfl (hb hby d_4_266) ?_
                    refine XS.aloadN X6.here hx rfl (hb hby d_4_267) rfl rfl ?_
                    refine XS.iconst X6.here hx rfl (hb hby d_4_268) ?_
                    exact k
                  obtain ⟨cl_tc_7, Ar_tc_7, q_tc_7, S_tc_7, N_tc_7, H_tc_7, G_tc_7⟩ := id V_tc
                  refine OEndsH.st (S' := T6.setTop (mkF m 270 #[vr tc, vi ln] [(.int x2), (.int 2), (.ref b2), (.ref b2), (.ref b1), (.ref b1)])) (X6.caload hx (j := (2 : Int32)) (v := (.int x2)) (by rw [e6]; exact Ar_tc_7.1) (State.isArrayOf_alike hZ.alike Ar_tc_7.2.1) Ar_tc_7.2.2 (inb_of S_tc_7 ⟨by decide, by decide⟩) (H_tc_7.at (inb_of S_tc_7 ⟨by decide, by decide⟩) rfl) (g := (mkF m 269 #[vr tc, vi ln] [(.int 2), (.ref tc), (.int 2), (.ref b2), (.ref b2), (.ref b1), (.ref b1)])) rfl rfl (hb hby d_4_269)) ?_
                  obtain ⟨cl_b2_8, Ar_b2_8, q_b2_8, S_b2_8, N_b2_8, H_b2_8, G_b2_8⟩ := V_b2_6
                  obtain ⟨T8, h8, X8, e8, W8, st8⟩ := stC X6 hx hZ e6 Ar_b2_8 (j := (2 : Int32)) (inb_of S_b2_8 ⟨by decide, by decide⟩) (g := (mkF m 270 #[vr tc, vi ln] [(.int x2), (.int 2), (.ref b2), (.ref b2), (.ref b1), (.ref b1)])) rfl rfl (hb hby d_4_270)
                  have V_b2_8 : Arv Z h8 b2 k2 .char (7 : Int32) [(.int (nar .char x0)), (.int (nar .char x1)), (.int (nar .char x2)), (.int 0), (.int 0), (.int 0), (.int 0)] (.int 0) := Arv.set Ar_b2_8 q_b2_8 S_b2_8 N_b2_8 H_b2_8 G_b2_8 (fits_nar_char _) W8 2 rfl (Nat.le_of_ble_eq_true rfl)
                  refine OEndsH.st st8 ?_
                  replace V_tc := V_tc.other W8 ne_tc_b2
                  replace A1 := A1.wr W8
                  replace F_value_b1 := F_value_b1.other W8 (Or.inl ne_b1_b2)
                  replace F_coder_b1 := F_coder_b1.other W8 (Or.inl ne_b1_b2)
                  have S_b1' : Safe Z EL vm0 h8 b1 := Safe.wr W8 S_b2 A0.1 S_b1
                  have S_b2' : Safe Z EL vm0 h8 b2 := Safe.wr W8 S_b2 A0.1 S_b2
                  have A' : CHr Z EL s.vm s.heap vm0 h8 := A0.trans (CHr.wr W8 S_b2 A0.1)
                  replace S_b1 := S_b1'
                  replace S_b2 := S_b2'
                  replace A0 := A'
                  replace hk0 := Nat.le_trans hk0 (Keep.of_wr W8).1
                  replace O0 : Ext Z.heap h8 := ext_wr O0 W8 ge_b2
                  replace N0 := Fr.snoc X8 N0 ge_b2
                  replace K0 : Keep h0 h8 [] := K0.wr W8 (Or.inr sz_b2)
                  refine OEndsH.st (S' := T8.setTop (mkF m 275 #[vr tc, vi ln] [(.int 3), (.ref tc), (.int 3), (.ref b2), (.ref b2), (.ref b1), (.ref b1)])) (fun _ k => ?_) ?_
                  · refine XS.dup X8.here hx rfl (hb hby d_4_271) rfl rfl ?_
                    refine XS.iconst X8.here hx rfl (hb hby d_4_272) ?_
                    refine XS.aloadN X8.here hx rfl (hb hby d_4_273) rfl rfl ?_
                    refine XS.iconst X8.here hx rfl (hb hby d_4_274) ?_
                    exact k
                  obtain ⟨cl_tc_9, Ar_tc_9, q_tc_9, S_tc_9, N_tc_9, H_tc_9, G_tc_9⟩ := id V_tc
                  refine OEndsH.st (S' := T8.setTop (mkF m 276 #[vr tc, vi ln] [(.int x3), (.int 3), (.ref b2), (.ref b2), (.ref b1), (.ref b1)])) (X8.caload hx (j := (3 : Int32)) (v := (.int x3)) (by rw [e8]; exact Ar_tc_9.1) (State.isArrayOf_alike hZ.alike Ar_tc_9.2.1) Ar_tc_9.2.2 (inb_of S_tc_9 ⟨by decide, by decide⟩) (H_tc_9.at (inb_of S_tc_9 ⟨by decide, by decide⟩) rfl) (g := (mkF m 275 #[vr tc, vi ln] [(.int 3), (.ref tc), (.int 3), (.ref b2), (.ref b2), (.ref b1), (.ref b1)])) rfl rfl (hb hby d_4_275)) ?_
                  obtain ⟨cl_b2_10, Ar_b2_10, q_b2_10, S_b2_10, N_b2_10, H_b2_10, G_b2_10⟩ := V_b2_8
                  obtain ⟨T10, h10, X10, e10, W10, st10⟩ := stC X8 hx hZ e8 Ar_b2_10 (j := (3 : Int32)) (inb_of S_b2_10 ⟨by decide, by decide⟩) (g := (mkF m 276 #[vr tc, vi ln] [(.int x3), (.int 3), (.ref b2), (.ref b2), (.ref b1), (.ref b1)])) rfl rfl (hb hby d_4_276)
                  have V_b2_10 : Arv Z h10 b2 k2 .char (7 : Int32) [(.int (nar .char x0)), (.int (nar .char x1)), (.int (nar .char x2)), (.int (nar .char x3)), (.int 0), (.int 0), (.int 0)] (.int 0) := Arv.set Ar_b2_10 q_b2_10 S_b2_10 N_b2_10 H_b2_10 G_b2_10 (fits_nar_char _) W10 3 rfl (Nat.le_of_ble_eq_true rfl)
                  refine OEndsH.st st10 ?_
                  replace V_tc := V_tc.other W10 ne_tc_b2
                  replace A1 := A1.wr W10
                  replace F_value_b1 := F_value_b1.other W10 (Or.inl ne_b1_b2)
                  replace F_coder_b1 := F_coder_b1.other W10 (Or.inl ne_b1_b2)
                  have S_b1' : Safe Z EL vm0 h10 b1 := Safe.wr W10 S_b2 A0.1 S_b1
                  have S_b2' : Safe Z EL vm0 h10 b2 := Safe.wr W10 S_b2 A0.1 S_b2
                  have A' : CHr Z EL s.vm s.heap vm0 h10 := A0.trans (CHr.wr W10 S_b2 A0.1)
                  replace S_b1 := S_b1'
                  replace S_b2 := S_b2'
                  replace A0 := A'
                  replace hk0 := Nat.le_trans hk0 (Keep.of_wr W10).1
                  replace O0 : Ext Z.heap h10 := ext_wr O0 W10 ge_b2
                  replace N0 := Fr.snoc X10 N0 ge_b2
                  replace K0 : Keep h0 h10 [] := K0.wr W10 (Or.inr sz_b2)
                  refine OEndsH.st (S' := T10.setTop (mkF m 281 #[vr tc, vi ln] [(.int 4), (.ref tc), (.int 4), (.ref b2), (.ref b2), (.ref b1), (.ref b1)])) (fun _ k => ?_) ?_
                  · refine XS.dup X10.here hx rfl (hb hby d_4_277) rfl rfl ?_
                    refine XS.iconst X10.here hx rfl (hb hby d_4_278) ?_
                    refine XS.aloadN X10.here hx rfl (hb hby d_4_279) rfl rfl ?_
                    refine XS.iconst X10.here hx rfl (hb hby d_4_280) ?_
                    exact k
                  obtain ⟨cl_tc_11, Ar_tc_11, q_tc_11, S_tc_11, N_tc_11, H_tc_11, G_tc_11⟩ := id V_tc
                  refine OEndsH.st (S' := T10.setTop (mkF m 282 #[vr tc, vi ln] [(.int x4), (.int 4), (.ref b2), (.ref b2), (.ref b1), (.ref b1)])) (X10.caload hx (j := (4 : Int32)) (v := (.int x4)) (by rw [e10]; exact Ar_tc_11.1) (State.isArrayOf_alike hZ.alike Ar_tc_11.2.1) Ar_tc_11.2.2 (inb_of S_tc_11 ⟨by decide, by decide⟩) (H_tc_11.at (inb_of S_tc_11 ⟨by decide, by decide⟩) rfl) (g := (mkF m 281 #[vr tc, vi ln] [(.int 4), (.ref tc), (.int 4), (.ref b2), (.ref b2), (.ref b1), (.ref b1)])) rfl rfl (hb hby d_4_281)) ?_
                  obtain ⟨cl_b2_12, Ar_b2_12, q_b2_12, S_b2_12, N_b2_12, H_b2_12, G_b2_12⟩ := V_b2_10
                  obtain ⟨T12, h12, X12, e12, W12, st12⟩ := stC X10 hx hZ e10 Ar_b2_12 (j := (4 : Int32)) (inb_of S_b2_12 ⟨by decide, by decide⟩) (g := (mkF m 282 #[vr tc, vi ln] [(.int x4), (.int 4), (.ref b2), (.ref b2), (.ref b1), (.ref b1)])) rfl rfl (hb hby d_4_282)
                  have V_b2_12 : Arv Z h12 b2 k2 .char (7 : Int32) [(.int (nar .char x0)), (.int (nar .char x1)), (.int (nar .char x2)), (.int (nar .char x3)), (.int (nar .char x4)), (.int 0), (.int 0)] (.int 0) := Arv.set Ar_b2_12 q_b2_12 S_b2_12 N_b2_12 H_b2_12 G_b2_12 (fits_nar_char _) W12 4 rfl (Nat.le_of_ble_eq_true rfl)
                  refine OEndsH.st st12 ?_
                  replace V_tc := V_tc.other W12 ne_tc_b2
                  replace A1 := A1.wr W12
                  replace F_value_b1 := F_value_b1.other W12 (Or.inl ne_b1_b2)
                  replace F_coder_b1 := F_coder_b1.other W12 (Or.inl ne_b1_b2)
                  have S_b1' : Safe Z EL vm0 h12 b1 := Safe.wr W12 S_b2 A0.1 S_b1
                  have S_b2' : Safe Z EL vm0 h12 b2 := Safe.wr W12 S_b2 A0.1 S_b2
                  have A' : CHr Z EL s.vm s.heap vm0 h12 := A0.trans (CHr.wr W12 S_b2 A0.1)
                  replace S_b1 := S_b1'
                  replace S_b2 := S_b2'
                  replace A0 := A'
                  replace hk0 := Nat.le_trans hk0 (Keep.of_wr W12).1
                  replace O0 : Ext Z.heap h12 := ext_wr O0 W12 ge_b2
                  replace N0 := Fr.snoc X12 N0 ge_b2
                  replace K0 : Keep h0 h12 [] := K0.wr W12 (Or.inr sz_b2)
                  refine OEndsH.st (S' := T12.setTop (mkF m 287 #[vr tc, vi ln] [(.int 5), (.ref tc), (.int 5), (.ref b2), (.ref b2), (.ref b1), (.ref b1)])) (fun _ k => ?_) ?_
                  · refine XS.dup X12.here hx rfl (hb hby d_4_283) rfl rfl ?_
                    refine XS.iconst X12.here hx rfl (hb hby d_4_284) ?_
                    refine XS.aloadN X12.here hx rfl (hb hby d_4_285) rfl rfl ?_
                    refine XS.iconst X12.here hx rfl (hb hby d_4_286) ?_
                    exact k
                  obtain ⟨cl_tc_13, Ar_tc_13, q_tc_13, S_tc_13, N_tc_13, H_tc_13, G_tc_13⟩ := id V_tc
                  refine OEndsH.st (S' := T12.setTop (mkF m 288 #[vr tc, vi ln] [(.int x5), (.int 5), (.ref b2), (.ref b2), (.ref b1), (.ref b1)])) (X12.caload hx (j := (5 : Int32)) (v := (.int x5)) (by rw [e12]; exact Ar_tc_13.1) (State.isArrayOf_alike hZ.alike Ar_tc_13.2.1) Ar_tc_13.2.2 (inb_of S_tc_13 ⟨by decide, by decide⟩) (H_tc_13.at (inb_of S_tc_13 ⟨by decide, by decide⟩) rfl) (g := (mkF m 287 #[vr tc, vi ln] [(.int 5), (.ref tc), (.int 5), (.ref b2), (.ref b2), (.ref b1), (.ref b1)])) rfl rfl (hb hby d_4_287)) ?_
                  obtain ⟨cl_b2_14, Ar_b2_14, q_b2_14, S_b2_14, N_b2_14, H_b2_14, G_b2_14⟩ := V_b2_12
                  obtain ⟨T14, h14, X14, e14, W14, st14⟩ := stC X12 hx hZ e12 Ar_b2_14 (j := (5 : Int32)) (inb_of S_b2_14 ⟨by decide, by decide⟩) (g := (mkF m 288 #[vr tc, vi ln] [(.int x5), (.int 5), (.ref b2), (.ref b2), (.ref b1), (.ref b1)])) rfl rfl (hb hby d_4_288)
                  have V_b2_14 : Arv Z h14 b2 k2 .char (7 : Int32) [(.int (nar .char x0)), (.int (nar .char x1)), (.int (nar .char x2)), (.int (nar .char x3)), (.int (nar .char x4)), (.int (nar .char x5)), (.int 0)] (.int 0) := Arv.set Ar_b2_14 q_b2_14 S_b2_14 N_b2_14 H_b2_14 G_b2_14 (fits_nar_char _) W14 5 rfl (Nat.le_of_ble_eq_true rfl)
                  refine OEndsH.st st14 ?_
                  replace V_tc := V_tc.other W14 ne_tc_b2
                  replace A1 := A1.wr W14
                  replace F_value_b1 := F_value_b1.other W14 (Or.inl ne_b1_b2)
                  replace F_coder_b1 := F_coder_b1.other W14 (Or.inl ne_b1_b2)
                  have S_b1' : Safe Z EL vm0 h14 b1 := Safe.wr W14 S_b2 A0.1 S_b1
                  have S_b2' : Safe Z EL vm0 h14 b2 := Safe.wr W14 S_b2 A0.1 S_b2
                  have A' : CHr Z EL s.vm s.heap vm0 h14 := A0.trans (CHr.wr W14 S_b2 A0.1)
                  replace S_b1 := S_b1'
                  replace S_b2 := S_b2'
                  replace A0 := A'
                  replace hk0 := Nat.le_trans hk0 (Keep.of_wr W14).1
                  replace O0 : Ext Z.heap h14 := ext_wr O0 W14 ge_b2
                  replace N0 := Fr.snoc X14 N0 ge_b2
                  replace K0 : Keep h0 h14 [] := K0.wr W14 (Or.inr sz_b2)
                  refine OEndsH.st (S' := T14.setTop (mkF m 295 #[vr tc, vi ln] [(.int 6), (.ref tc), (.int 6), (.ref b2), (.ref b2), (.ref b1), (.ref b1)])) (fun _ k => ?_) ?_
                  · refine XS.dup X14.here hx rfl (hb hby d_4_289) rfl rfl ?_
                    refine XS.bipush X14.here hx rfl (hb hby d_4_290) ?_
                    refine XS.aloadN X14.here hx rfl (hb hby d_4_292) rfl rfl ?_
                    refine XS.bipush X14.here hx rfl (hb hby d_4_293) ?_
                    exact k
                  obtain ⟨cl_tc_15, Ar_tc_15, q_tc_15, S_tc_15, N_tc_15, H_tc_15, G_tc_15⟩ := id V_tc
                  refine OEndsH.st (S' := T14.setTop (mkF m 296 #[vr tc, vi ln] [(.int x6), (.int 6), (.ref b2), (.ref b2), (.ref b1), (.ref b1)])) (X14.caload hx (j := (6 : Int32)) (v := (.int x6)) (by rw [e14]; exact Ar_tc_15.1) (State.isArrayOf_alike hZ.alike Ar_tc_15.2.1) Ar_tc_15.2.2 (inb_of S_tc_15 ⟨by decide, by decide⟩) (H_tc_15.at (inb_of S_tc_15 ⟨by decide, by decide⟩) rfl) (g := (mkF m 295 #[vr tc, vi ln] [(.int 6), (.ref tc), (.int 6), (.ref b2), (.ref b2), (.ref b1), (.ref b1)])) rfl rfl (hb hby d_4_295)) ?_
                  obtain ⟨cl_b2_16, Ar_b2_16, q_b2_16, S_b2_16, N_b2_16, H_b2_16, G_b2_16⟩ := V_b2_14
                  obtain ⟨T16, h16, X16, e16, W16, st16⟩ := stC X14 hx hZ e14 Ar_b2_16 (j := (6 : Int32)) (inb_of S_b2_16 ⟨by decide, by decide⟩) (g := (mkF m 296 #[vr tc, vi ln] [(.int x6), (.int 6), (.ref b2), (.ref b2), (.ref b1), (.ref b1)])) rfl rfl (hb hby d_4_296)
                  have V_b2_16 : Arv Z h16 b2 k2 .char (7 : Int32) [(.int (nar .char x0)), (.int (nar .char x1)), (.int (nar .char x2)), (.int (nar .char x3)), (.int (nar .char x4)), (.int (nar .char x5)), (.int (nar .char x6))] (.int 0) := Arv.set Ar_b2_16 q_b2_16 S_b2_16 N_b2_16 H_b2_16 G_b2_16 (fits_nar_char _) W16 6 rfl (Nat.le_of_ble_eq_true rfl)
                  refine OEndsH.st st16 ?_
                  replace V_tc := V_tc.other W16 ne_tc_b2
                  replace A1 := A1.wr W16
                  replace F_value_b1 := F_value_b1.other W16 (Or.inl ne_b1_b2)
                  replace F_coder_b1 := F_coder_b1.other W16 (Or.inl ne_b1_b2)
                  have S_b1' : Safe Z EL vm0 h16 b1 := Safe.wr W16 S_b2 A0.1 S_b1
                  have S_b2' : Safe Z EL vm0 h16 b2 := Safe.wr W16 S_b2 A0.1 S_b2
                  have A' : CHr Z EL s.vm s.heap vm0 h16 := A0.trans (CHr.wr W16 S_b2 A0.1)
                  replace S_b1 := S_b1'
                  replace S_b2 := S_b2'
                  replace A0 := A'
                  replace hk0 := Nat.le_trans hk0 (Keep.of_wr W16).1
                  replace O0 : Ext Z.heap h16 := ext_wr O0 W16 ge_b2
                  replace N0 := Fr.snoc X16 N0 ge_b2
                  replace K0 : Keep h0 h16 [] := K0.wr W16 (Or.inr sz_b2)
                  simp only [nar_char (x := x0) hx0, nar_char (x := x1) hx1, nar_char (x := x2) hx2, nar_char (x := x3) hx3, nar_char (x := x4) hx4, nar_char (x := x5) hx5, nar_char (x := x6) hx6] at V_b2_16
                  have hp17 : ∀ c ∈ ([x0, x1, x2, x3, x4, x5, x6] : List Int32), ¬ c < 0 ∧ ¬ (255 : Int32) < c := by
                    intro c hc; simp only [List.mem_cons, List.not_mem_nil, or_false] at hc
                    rcases hc with rfl | rfl | rfl | rfl | rfl | rfl | rfl
                    · exact hx0
                    · exact hx1
                    · exact hx2
                    · exact hx3
                    · exact hx4
                    · exact hx5
                    · exact hx6
                  obtain ⟨_, T18, h18, L18, X18, e18, hQ18, st18⟩ := specC X16 hx hZ rfl hown (wq hw 11 rfl) (wq hw 12 rfl) (wq hw 13 rfl) (by decide) (kc := 1) (ks := 7) (SB.of (Q := StrChars.Road.QV Z b1 (7 : Int32) (([x0, x1, x2, x3, x4, x5, x6] : List Int32).map (fun c => c.toInt8.toInt32)) h16 Z.heap.size) (StrChars.Road.backV (W := 1) hZ hws (kI := 4) (wq hw 9 rfl) (cs := ([x0, x1, x2, x3, x4, x5, x6] : List Int32)) (bs := (([x0, x1, x2, x3, x4, x5, x6] : List Int32).map (fun c => c.toInt8.toInt32))) (n := 7) ge_b1 O0.1 A1 F_value_b1 F_coder_b1 V_b2_16 (S_CS.ext O0) hcz rfl rfl (by decide) (by decide) hp17 rfl (by decide) (by decide))) e16 (a := b1) (g := (mkF m 297 #[vr tc, vi ln] [(.ref b2), (.ref b1), (.ref b1)])) rfl (by rw [hml]; rfl) (argsL := [(.ref b2)]) (rest := [(.ref b1)]) (lenOf pd_2 rfl) rfl (by show 2 * 0 + _ ≤ _; exact Nat.le_of_eq rfl) (hb hby d_4_297) (by decide) (by decide)
                  obtain ⟨rfl, Nq18, Kq18, Eq18, Fc18, t18, kb18, gq18, szq18, nq18, Fv18, V18⟩ := hQ18
                  refine OEndsH.st st18 ?_
                  replace N0 := Fr.app N0 Nq18
                  have ne_b1_t18 : b1 ≠ t18 := Nat.ne_of_lt (Nat.lt_of_lt_of_le A1.lt szq18)
                  have ne_b2_t18 : b2 ≠ t18 := Nat.ne_of_lt (Nat.lt_of_lt_of_le V_b2_16.lt szq18)
                  have ne_tc_t18 : tc ≠ t18 := Nat.ne_of_lt (Nat.lt_of_lt_of_le V_tc.lt szq18)
                  have ge_t18 : Z.heap.size ≤ t18 := Nat.le_trans O0.1 szq18
                  have S_t18 : Safe Z EL vm0 h16 t18 := Safe.new szq18
                  have sz_t18 : h0.size ≤ t18 := Nat.le_trans K0.1 szq18
                  replace V_tc := V_tc.keep Kq18 (ninS ne_tc_b1 nin0)
                  replace A1 := A1.keep Kq18
                  replace V_b2_16 := V_b2_16.keep Kq18 (ninS (Ne.symm ne_b1_b2) nin0)
                  have S_b1' : Safe Z EL vm0 h18 b1 := Safe.keep Kq18 (sfS S_b1 sf0) A0.1 S_b1
                  have S_b2' : Safe Z EL vm0 h18 b2 := Safe.keep Kq18 (sfS S_b1 sf0) A0.1 S_b2
                  have S_t18' : Safe Z EL vm0 h18 t18 := Safe.keep Kq18 (sfS S_b1 sf0) A0.1 S_t18
                  have A' : CHr Z EL s.vm s.heap vm0 h18 := A0.trans (CHr.keep Kq18 (sfS S_b1 sf0) A0.1)
                  replace S_b1 := S_b1'
                  replace S_b2 := S_b2'
                  replace S_t18 := S_t18'
                  replace A0 := A'
                  replace hk0 := Nat.le_trans hk0 Kq18.1
                  replace O0 : Ext Z.heap h18 := ext_keep O0 Kq18 (allS ge_b1 all0)
                  replace K0 : Keep h0 h18 [] := K0.trans Kq18 (allS (Or.inr sz_b1) all0)
                  replace V18 : Arv Z h18 t18 kb18 .byte (Int32.ofNat 7) [(.int (x0).toInt8.toInt32), (.int (x1).toInt8.toInt32), (.int (x2).toInt8.toInt32), (.int (x3).toInt8.toInt32), (.int (x4).toInt8.toInt32), (.int (x5).toInt8.toInt32), (.int (x6).toInt8.toInt32)] (.int 0) := V18
                  clear V_b2_16
                  exact OEndsH.ret X18 hx hZ hEL e18 hS0 hk0 A0 hret hlk rfl (Or.inr (Or.inr (Or.inr (Or.inr ⟨rfl, rfl, rfl⟩)))) (hb hby d_4_300) (by decide) (by decide) ⟨b1, 7, rfl, N0, K0, (by decide), q7, A1, Fc18, t18, _, Fv18, V18⟩
                · refine OEndsH.st (S' := T0.setTop (mkF m 304 #[vr tc, vi ln] [(.int 8), (.int ln)])) (fun _ k => ?_) ?_
                  · refine XS.icmpYes X0.here hx rfl (pc0 := 242) (pc' := 301) rfl (hb hby d_4_242) rfl (feq q7).2 (by decide) (by decide) ?_
                    refine XS.iloadN X0.here hx rfl (hb hby d_4_301) rfl ?_
                    refine XS.bipush X0.here hx rfl (hb hby d_4_302) ?_
                    exact k
                  rcases Classical.em (ln = (8 : Int32)) with q8 | q8
                  · refine OEndsH.st (S' := T0.setTop (mkF m 307 #[vr tc, vi ln] [])) (fun _ k => ?_) ?_
                    · refine XS.icmpNo X0.here hx rfl (hb hby d_4_304) rfl (teq q8).2 ?_
                      exact k
                    obtain ⟨T1, h1, X1, e1, E1, A1, D1, U1, st1⟩ := newO X0 hx hZ hown (wq hw 8 rfl) (wq hw 9 rfl) (wq hw 10 rfl) e0 (g := (mkF m 307 #[vr tc, vi ln] [])) rfl (hb hby d_4_307) (by decide) (by decide)
                    obtain ⟨b1, g1⟩ : ∃ z, z = h0.size := ⟨_, rfl⟩
                    rw [← g1] at A1 D1 U1 st1
                    refine OEndsH.st st1 ?_
                    have ne_tc_b1 : tc ≠ b1 := Nat.ne_of_lt (Nat.lt_of_lt_of_le V_tc.lt (Nat.le_of_eq g1.symm))
                    have ge_b1 : Z.heap.size ≤ b1 := Nat.le_trans O0.1 (Nat.le_of_eq g1.symm)
                    have sz_b1 : h0.size ≤ b1 := Nat.le_trans K0.1 (Nat.le_of_eq g1.symm)
                    have S_b1 : Safe Z EL vm0 h0 b1 := Safe.new (Nat.le_of_eq g1.symm)
                    replace V_tc := V_tc.ext E1
                    have S_b1' : Safe Z EL vm0 h1 b1 := Safe.ext E1 A0.1 S_b1
                    have A' : CHr Z EL s.vm s.heap vm0 h1 := A0.trans (CHr.ext E1 A0.1)
                    replace S_b1 := S_b1'
                    replace A0 := A'
                    replace hk0 := Nat.le_trans hk0 E1.1
                    replace O0 : Ext Z.heap h1 := ext_trans O0 E1
                    replace K0 : Keep h0 h1 [] := K0.ext E1
                    have F_value_b1 : Fld Z h1 b1 "java/lang/String" "value" "[B" .null := D1 (Or.inr (wq hw 23 rfl)) (ty := (.array .byte)) (by decide)
                    have F_coder_b1 : Fld Z h1 b1 "java/lang/String" "coder" "B" (.int 0) := D1 (Or.inr (wq hw 24 rfl)) (ty := .byte) (by decide)
                    refine OEndsH.st (S' := T1.setTop (mkF m 313 #[vr tc, vi ln] [(.int 8), (.ref b1), (.ref b1)])) (fun _ k => ?_) ?_
                    · refine XS.dup X1.here hx rfl (hb hby d_4_310) rfl rfl ?_
                      refine XS.bipush X1.here hx rfl (hb hby d_4_311) ?_
                      exact k
                    obtain ⟨T2, h2, k2, X2, e2, E2, A2, st2⟩ := newP X1 hx hZ (wq hw 0 rfl) e1 (g := (mkF m 313 #[vr tc, vi ln] [(.int 8), (.ref b1), (.ref b1)])) rfl (hb hby d_4_313) rfl (by decide) (cap := 8) (by decide) (by decide) (by decide) (by decide)
                    obtain ⟨b2, g2⟩ : ∃ z, z = h1.size := ⟨_, rfl⟩
                    rw [← g2] at A2 st2
                    refine OEndsH.st st2 ?_
                    have ne_b1_b2 : b1 ≠ b2 := Nat.ne_of_lt (Nat.lt_of_lt_of_le A1.lt (Nat.le_of_eq g2.symm))
                    have ne_tc_b2 : tc ≠ b2 := Nat.ne_of_lt (Nat.lt_of_lt_of_le V_tc.lt (Nat.le_of_eq g2.symm))
                    have ge_b2 : Z.heap.size ≤ b2 := Nat.le_trans O0.1 (Nat.le_of_eq g2.symm)
                    have sz_b2 : h0.size ≤ b2 := Nat.le_trans K0.1 (Nat.le_of_eq g2.symm)
                    have S_b2 : Safe Z EL vm0 h1 b2 := Safe.new (Nat.le_of_eq g2.symm)
                    replace V_tc := V_tc.ext E2
                    replace A1 := A1.ext E2
                    replace F_value_b1 := F_value_b1.ext E2
                    replace F_coder_b1 := F_coder_b1.ext E2
                    have S_b1' : Safe Z EL vm0 h2 b1 := Safe.ext E2 A0.1 S_b1
                    have S_b2' : Safe Z EL vm0 h2 b2 := Safe.ext E2 A0.1 S_b2
                    have A' : CHr Z EL s.vm s.heap vm0 h2 := A0.trans (CHr.ext E2 A0.1)
                    replace S_b1 := S_b1'
                    replace S_b2 := S_b2'
                    replace A0 := A'
                    replace hk0 := Nat.le_trans hk0 E2.1
                    replace O0 : Ext Z.heap h2 := ext_trans O0 E2
                    replace K0 : Keep h0 h2 [] := K0.ext E2
                    have V_b2 : Arv Z h2 b2 k2 .char (8 : Int32) [(.int 0), (.int 0), (.int 0), (.int 0), (.int 0), (.int 0), (.int 0), (.int 0)] (.int 0) := (Arv.new A2 (by decide)).pad (pad_rep [] (.int 0) 8)
                    refine OEndsH.st (S' := T2.setTop (mkF m 319 #[vr tc, vi ln] [(.int 0), (.ref tc), (.int 0), (.ref b2), (.ref b2), (.ref b1), (.ref b1)])) (fun _ k => ?_) ?_
                    · refine XS.dup X2.here hx rfl (hb hby d_4_315) rfl rfl ?_
                      refine XS.iconst X2.here hx rfl (hb hby d_4_316) ?_
                      refine XS.aloadN X2.here hx rfl (hb hby d_4_317) rfl rfl ?_
                      refine XS.iconst X2.here hx rfl (hb hby d_4_318) ?_
                      exact k
                    obtain ⟨cl_tc_3, Ar_tc_3, q_tc_3, S_tc_3, N_tc_3, H_tc_3, G_tc_3⟩ := id V_tc
                    refine OEndsH.st (S' := T2.setTop (mkF m 320 #[vr tc, vi ln] [(.int x0), (.int 0), (.ref b2), (.ref b2), (.ref b1), (.ref b1)])) (X2.caload hx (j := (0 : Int32)) (v := (.int x0)) (by rw [e2]; exact Ar_tc_3.1) (State.isArrayOf_alike hZ.alike Ar_tc_3.2.1) Ar_tc_3.2.2 (inb_of S_tc_3 ⟨by decide, by decide⟩) (H_tc_3.at (inb_of S_tc_3 ⟨by decide, by decide⟩) rfl) (g := (mkF m 319 #[vr tc, vi ln] [(.int 0), (.ref tc), (.int 0), (.ref b2), (.ref b2), (.ref b1), (.ref b1)])) rfl rfl (hb hby d_4_319)) ?_
                    obtain ⟨cl_b2_4, Ar_b2_4, q_b2_4, S_b2_4, N_b2_4, H_b2_4, G_b2_4⟩ := V_b2
                    obtain ⟨T4, h4, X4, e4, W4, st4⟩ := stC X2 hx hZ e2 Ar_b2_4 (j := (0 : Int32)) (inb_of S_b2_4 ⟨by decide, by decide⟩) (g := (mkF m 320 #[vr tc, vi ln] [(.int x0), (.int 0), (.ref b2), (.ref b2), (.ref b1), (.ref b1)])) rfl rfl (hb hby d_4_320)
                    have V_b2_4 : Arv Z h4 b2 k2 .char (8 : Int32) [(.int (nar .char x0)), (.int 0), (.int 0), (.int 0), (.int 0), (.int 0), (.int 0), (.int 0)] (.int 0) := Arv.set Ar_b2_4 q_b2_4 S_b2_4 N_b2_4 H_b2_4 G_b2_4 (fits_nar_char _) W4 0 rfl (Nat.le_of_ble_eq_true rfl)
                    refine OEndsH.st st4 ?_
                    replace V_tc := V_tc.other W4 ne_tc_b2
                    replace A1 := A1.wr W4
                    replace F_value_b1 := F_value_b1.other W4 (Or.inl ne_b1_b2)
                    replace F_coder_b1 := F_coder_b1.other W4 (Or.inl ne_b1_b2)
                    have S_b1' : Safe Z EL vm0 h4 b1 := Safe.wr W4 S_b2 A0.1 S_b1
                    have S_b2' : Safe Z EL vm0 h4 b2 := Safe.wr W4 S_b2 A0.1 S_b2
                    have A' : CHr Z EL s.vm s.heap vm0 h4 := A0.trans (CHr.wr W4 S_b2 A0.1)
                    replace S_b1 := S_b1'
                    replace S_b2 := S_b2'
                    replace A0 := A'
                    replace hk0 := Nat.le_trans hk0 (Keep.of_wr W4).1
                    replace O0 : Ext Z.heap h4 := ext_wr O0 W4 ge_b2
                    replace N0 := Fr.snoc X4 N0 ge_b2
                    replace K0 : Keep h0 h4 [] := K0.wr W4 (Or.inr sz_b2)
                    refine OEndsH.st (S' := T4.setTop (mkF m 325 #[vr tc, vi ln] [(.int 1), (.ref tc), (.int 1), (.ref b2), (.ref b2), (.ref b1), (.ref b1)])) (fun _ k => ?_) ?_
                    · refine XS.dup X4.here hx rfl (hb hby d_4_321) rfl rfl ?_
                      refine XS.iconst X4.here hx rfl (hb hby d_4_322) ?_
                      refine XS.aloadN X4.here hx rfl (hb hby d_4_323) rfl rfl ?_
                      refine XS.iconst X4.here hx rfl (hb hby d_4_324) ?_
                      exact k
                    obtain ⟨cl_tc_5, Ar_tc_5, q_tc_5, S_tc_5, N_tc_5, H_tc_5, G_tc_5⟩ := id V_tc
                    refine OEndsH.st (S' := T4.setTop (mkF m 326 #[vr tc, vi ln] [(.int x1), (.int 1), (.ref b2), (.ref b2), (.ref b1), (.ref b1)])) (X4.caload hx (j := (1 : Int32)) (v := (.int x1)) (by rw [e4]; exact Ar_tc_5.1) (State.isArrayOf_alike hZ.alike Ar_tc_5.2.1) Ar_tc_5.2.2 (inb_of S_tc_5 ⟨by decide, by decide⟩) (H_tc_5.at (inb_of S_tc_5 ⟨by decide, by decide⟩) rfl) (g := (mkF m 325 #[vr tc, vi ln] [(.int 1), (.ref tc), (.int 1), (.ref b2), (.ref b2), (.ref b1), (.ref b1)])) rfl rfl (hb hby d_4_325)) ?_
                    obtain ⟨cl_b2_6, Ar_b2_6, q_b2_6, S_b2_6, N_b2_6, H_b2_6, G_b2_6⟩ := V_b2_4
                    obtain ⟨T6, h6, X6, e6, W6, st6⟩ := stC X4 hx hZ e4 Ar_b2_6 (j := (1 : Int32)) (inb_of S_b2_6 ⟨by decide, by decide⟩) (g := (mkF m 326 #[vr tc, vi ln] [(.int x1), (.int 1), (.ref b2), (.ref b2), (.ref b1), (.ref b1)])) rfl rfl (hb hby d_4_326)
                    have V_b2_6 : Arv Z h6 b2 k2 .char (8 : Int32) [(.int (nar .char x0)), (.int (nar .char x1)), (.int 0), (.int 0), (.int 0), (.int 0), (.int 0), (.int 0)] (.int 0) := Arv.set Ar_b2_6 q_b2_6 S_b2_6 N_b2_6 H_b2_6 G_b2_6 (fits_nar_char _) W6 1 rfl (Nat.le_of_ble_eq_true rfl)
                    refine OEndsH.st st6 ?_
                    replace V_tc := V_tc.other W6 ne_tc_b2
                    replace A1 := A1.wr W6
                    replace F_value_b1 := F_value_b1.other W6 (Or.inl ne_b1_b2)
                    replace F_coder_b1 := F_coder_b1.other W6 (Or.inl ne_b1_b2)
                    have S_b1' : Safe Z EL vm0 h6 b1 := Safe.wr W6 S_b2 A0.1 S_b1
                    have S_b2' : Safe Z EL vm0 h6 b2 := Safe.wr W6 S_b2 A0.1 S_b2
                    have A' : CHr Z EL s.vm s.heap vm0 h6 := A0.trans (CHr.wr W6 S_b2 A0.1)
                    replace S_b1 := S_b1'
                    replace S_b2 := S_b2'
                    replace A0 := A'
                    replace hk0 := Nat.le_trans hk0 (Keep.of_wr W6).1
                    replace O0 : Ext Z.heap h6 := ext_wr O0 W6 ge_b2
                    replace N0 := Fr.snoc X6 N0 ge_b2
                    replace K0 : Keep h0 h6 [] := K0.wr W6 (Or.inr sz_b2)
                    refine OEndsH.st (S' := T6.setTop (mkF m 331 #[vr tc, vi ln] [(.int 2), (.ref tc), (.int 2), (.ref b2), (.ref b2), (.ref b1), (.ref b1)])) (fun _ k => ?_) ?_
                    · refine XS.dup X6.here hx rfl (hb hby d_4_327) rfl rfl ?_
                      refine XS.iconst X6.here hx rfl (hb hby d_4_328) ?_
                      refine XS.aloadN X6.here hx rfl (hb hby d_4_329) rfl rfl ?_
                      refine XS.iconst X6.here hx rfl (hb hby d_4_330) ?_
                      exact k
                    obtain ⟨cl_tc_7, Ar_tc_7, q_tc_7, S_tc_7, N_tc_7, H_tc_7, G_tc_7⟩ := id V_tc
                    refine OEndsH.st (S' := T6.setTop (mkF m 332 #[vr tc, vi ln] [(.int x2), (.int 2), (.ref b2), (.ref b2), (.ref b1), (.ref b1)])) (X6.caload hx (j := (2 : Int32)) (v := (.int x2)) (by rw [e6]; exact Ar_tc_7.1) (State.isArrayOf_alike hZ.alike Ar_tc_7.2.1) Ar_tc_7.2.2 (inb_of S_tc_7 ⟨by decide, by decide⟩) (H_tc_7.at (inb_of S_tc_7 ⟨by decide, by decide⟩) rfl) (g := (mkF m 331 #[vr tc, vi ln] [(.int 2), (.ref tc), (.int 2), (.ref b2), (.ref b2), (.ref b1), (.ref b1)])) rfl rfl (hb hby d_4_331)) ?_
                    obtain ⟨cl_b2_8, Ar_b2_8, q_b2_8, S_b2_8, N_b2_8, H_b2_8, G_b2_8⟩ := V_b2_6
                    obtain ⟨T8, h8, X8, e8, W8, st8⟩ := stC X6 hx hZ e6 Ar_b2_8 (j := (2 : Int32)) (inb_of S_b2_8 ⟨by decide, by decide⟩) (g := (mkF m 332 #[vr tc, vi ln] [(.int x2), (.int 2), (.ref b2), (.ref b2), (.ref b1), (.ref b1)])) rfl rfl (hb hby d_4_332)
                    have V_b2_8 : Arv Z h8 b2 k2 .char (8 : Int32) [(.int (nar .char x0)), (.int (nar .char x1)), (.int (nar .char x2)), (.int 0), (.int 0), (.int 0), (.int 0), (.int 0)] (.int 0) := Arv.set Ar_b2_8 q_b2_8 S_b2_8 N_b2_8 H_b2_8 G_b2_8 (fits_nar_char _) W8 2 rfl (Nat.le_of_ble_eq_true rfl)
                    refine OEndsH.st st8 ?_
                    replace V_tc := V_tc.other W8 ne_tc_b2
                    replace A1 := A1.wr W8
                    replace F_value_b1 := F_value_b1.other W8 (Or.inl ne_b1_b2)
                    replace F_coder_b1 := F_coder_b1.other W8 (Or.inl ne_b1_b2)
                    have S_b1' : Safe Z EL vm0 h8 b1 := Safe.wr W8 S_b2 A0.1 S_b1
                    have S_b2' : Safe Z EL vm0 h8 b2 := Safe.wr W8 S_b2 A0.1 S_b2
                    have A' : CHr Z EL s.vm s.heap vm0 h8 := A0.trans (CHr.wr W8 S_b2 A0.1)
                    replace S_b1 := S_b1'
                    replace S_b2 := S_b2'
                    replace A0 := A'
                    replace hk0 := Nat.le_trans hk0 (Keep.of_wr W8).1
                    replace O0 : Ext Z.heap h8 := ext_wr O0 W8 ge_b2
                    replace N0 := Fr.snoc X8 N0 ge_b2
                    replace K0 : Keep h0 h8 [] := K0.wr W8 (Or.inr sz_b2)
                    refine OEndsH.st (S' := T8.setTop (mkF m 337 #[vr tc, vi ln] [(.int 3), (.ref tc), (.int 3), (.ref b2), (.ref b2), (.ref b1), (.ref b1)])) (fun _ k => ?_) ?_
                    · refine XS.dup X8.here hx rfl (hb hby d_4_333) rfl rfl ?_
                      refine XS.iconst X8.here hx rfl (hb hby d_4_334) ?_
                      refine XS.aloadN X8.here hx rfl (hb hby d_4_335) rfl rfl ?_
                      refine XS.iconst X8.here hx rfl (hb hby d_4_336) ?_
                      exact k
                    obtain ⟨cl_tc_9, Ar_tc_9, q_tc_9, S_tc_9, N_tc_9, H_tc_9, G_tc_9⟩ := id V_tc
                    refine OEndsH.st (S' := T8.setTop (mkF m 338 #[vr tc, vi ln] [(.int x3), (.int 3), (.ref b2), (.ref b2), (.ref b1), (.ref b1)])) (X8.caload hx (j := (3 : Int32)) (v := (.int x3)) (by rw [e8]; exact Ar_tc_9.1) (State.isArrayOf_alike hZ.alike Ar_tc_9.2.1) Ar_tc_9.2.2 (inb_of S_tc_9 ⟨by decide, by decide⟩) (H_tc_9.at (inb_of S_tc_9 ⟨by decide, by decide⟩) rfl) (g := (mkF m 337 #[vr tc, vi ln] [(.int 3), (.ref tc), (.int 3), (.ref b2), (.ref b2), (.ref b1), (.ref b1)])) rfl rfl (hb hby d_4_337)) ?_
                    obtain ⟨cl_b2_10, Ar_b2_10, q_b2_10, S_b2_10, N_b2_10, H_b2_10, G_b2_10⟩ := V_b2_8
                    obtain ⟨T10, h10, X10, e10, W10, st10⟩ := stC X8 hx hZ e8 Ar_b2_10 (j := (3 : Int32)) (inb_of S_b2_10 ⟨by decide, by decide⟩) (g := (mkF m 338 #[vr tc, vi ln] [(.int x3), (.int 3), (.ref b2), (.ref b2), (.ref b1), (.ref b1)])) rfl rfl (hb hby d_4_338)
                    have V_b2_10 : Arv Z h10 b2 k2 .char (8 : Int32) [(.int (nar .char x0)), (.int (nar .char x1)), (.int (nar .char x2)), (.int (nar .char x3)), (.int 0), (.int 0), (.int 0), (.int 0)] (.int 0) := Arv.set Ar_b2_10 q_b2_10 S_b2_10 N_b2_10 H_b2_10 G_b2_10 (fits_nar_char _) W10 3 rfl (Nat.le_of_ble_eq_true rfl)
                    refine OEndsH.st st10 ?_
                    replace V_tc := V_tc.other W10 ne_tc_b2
                    replace A1 := A1.wr W10
                    replace F_value_b1 := F_value_b1.other W10 (Or.inl ne_b1_b2)
                    replace F_coder_b1 := F_coder_b1.other W10 (Or.inl ne_b1_b2)
                    have S_b1' : Safe Z EL vm0 h10 b1 := Safe.wr W10 S_b2 A0.1 S_b1
                    have S_b2' : Safe Z EL vm0 h10 b2 := Safe.wr W10 S_b2 A0.1 S_b2
                    have A' : CHr Z EL s.vm s.heap vm0 h10 := A0.trans (CHr.wr W10 S_b2 A0.1)
                    replace S_b1 := S_b1'
                    replace S_b2 := S_b2'
                    replace A0 := A'
                    replace hk0 := Nat.le_trans hk0 (Keep.of_wr W10).1
                    replace O0 : Ext Z.heap h10 := ext_wr O0 W10 ge_b2
                    replace N0 := Fr.snoc X10 N0 ge_b2
                    replace K0 : Keep h0 h10 [] := K0.wr W10 (Or.inr sz_b2)
                    refine OEndsH.st (S' := T10.setTop (mkF m 343 #[vr tc, vi ln] [(.int 4), (.ref tc), (.int 4), (.ref b2), (.ref b2), (.ref b1), (.ref b1)])) (fun _ k => ?_) ?_
                    · refine XS.dup X10.here hx rfl (hb hby d_4_339) rfl rfl ?_
                      refine XS.iconst X10.here hx rfl (hb hby d_4_340) ?_
                      refine XS.aloadN X10.here hx rfl (hb hby d_4_341) rfl rfl ?_
                      refine XS.iconst X10.here hx rfl (hb hby d_4_342) ?_
                      exact k
                    obtain ⟨cl_tc_11, Ar_tc_11, q_tc_11, S_tc_11, N_tc_11, H_tc_11, G_tc_11⟩ := id V_tc
                    refine OEndsH.st (S' := T10.setTop (mkF m 344 #[vr tc, vi ln] [(.int x4), (.int 4), (.ref b2), (.ref b2), (.ref b1), (.ref b1)])) (X10.caload hx (j := (4 : Int32)) (v := (.int x4)) (by rw [e10]; exact Ar_tc_11.1) (State.isArrayOf_alike hZ.alike Ar_tc_11.2.1) Ar_tc_11.2.2 (inb_of S_tc_11 ⟨by decide, by decide⟩) (H_tc_11.at (inb_of S_tc_11 ⟨by decide, by decide⟩) rfl) (g := (mkF m 343 #[vr tc, vi ln] [(.int 4), (.ref tc), (.int 4), (.ref b2), (.ref b2), (.ref b1), (.ref b1)])) rfl rfl (hb hby d_4_343)) ?_
                    obtain ⟨cl_b2_12, Ar_b2_12, q_b2_12, S_b2_12, N_b2_12, H_b2_12, G_b2_12⟩ := V_b2_10
                    obtain ⟨T12, h12, X12, e12, W12, st12⟩ := stC X10 hx hZ e10 Ar_b2_12 (j := (4 : Int32)) (inb_of S_b2_12 ⟨by decide, by decide⟩) (g := (mkF m 344 #[vr tc, vi ln] [(.int x4), (.int 4), (.ref b2), (.ref b2), (.ref b1), (.ref b1)])) rfl rfl (hb hby d_4_344)
                    have V_b2_12 : Arv Z h12 b2 k2 .char (8 : Int32) [(.int (nar .char x0)), (.int (nar .char x1)), (.int (nar .char x2)), (.int (nar .char x3)), (.int (nar .char x4)), (.int 0), (.int 0), (.int 0)] (.int 0) := Arv.set Ar_b2_12 q_b2_12 S_b2_12 N_b2_12 H_b2_12 G_b2_12 (fits_nar_char _) W12 4 rfl (Nat.le_of_ble_eq_true rfl)
                    refine OEndsH.st st12 ?_
                    replace V_tc := V_tc.other W12 ne_tc_b2
                    replace A1 := A1.wr W12
                    replace F_value_b1 := F_value_b1.other W12 (Or.inl ne_b1_b2)
                    replace F_coder_b1 := F_coder_b1.other W12 (Or.inl ne_b1_b2)
                    have S_b1' : Safe Z EL vm0 h12 b1 := Safe.wr W12 S_b2 A0.1 S_b1
                    have S_b2' : Safe Z EL vm0 h12 b2 := Safe.wr W12 S_b2 A0.1 S_b2
                    have A' : CHr Z EL s.vm s.heap vm0 h12 := A0.trans (CHr.wr W12 S_b2 A0.1)
                    replace S_b1 := S_b1'
                    replace S_b2 := S_b2'
                    replace A0 := A'
                    replace hk0 := Nat.le_trans hk0 (Keep.of_wr W12).1
                    replace O0 : Ext Z.heap h12 := ext_wr O0 W12 ge_b2
                    replace N0 := Fr.snoc X12 N0 ge_b2
                    replace K0 : Keep h0 h12 [] := K0.wr W12 (Or.inr sz_b2)
                    refine OEndsH.st (S' := T12.setTop (mkF m 349 #[vr tc, vi ln] [(.int 5), (.ref tc), (.int 5), (.ref b2), (.ref b2), (.ref b1), (.ref b1)])) (fun _ k => ?_) ?_
                    · refine XS.dup X12.here hx rfl (hb hby d_4_345) rfl rfl ?_
                      refine XS.iconst X12.here hx rfl (hb hby d_4_346) ?_
                      refine XS.aloadN X12.here hx rfl (hb hby d_4_347) rfl rfl ?_
                      refine XS.iconst X12.here hx rfl (hb hby d_4_348) ?_
                      exact k
                    obtain ⟨cl_tc_13, Ar_tc_13, q_tc_13, S_tc_13, N_tc_13, H_tc_13, G_tc_13⟩ := id V_tc
                    refine OEndsH.st (S' := T12.setTop (mkF m 350 #[vr tc, vi ln] [(.int x5), (.int 5), (.ref b2), (.ref b2), (.ref b1), (.ref b1)])) (X12.caload hx (j := (5 : Int32)) (v := (.int x5)) (by rw [e12]; exact Ar_tc_13.1) (State.isArrayOf_alike hZ.alike Ar_tc_13.2.1) Ar_tc_13.2.2 (inb_of S_tc_13 ⟨by decide, by decide⟩) (H_tc_13.at (inb_of S_tc_13 ⟨by decide, by decide⟩) rfl) (g := (mkF m 349 #[vr tc, vi ln] [(.int 5), (.ref tc), (.int 5), (.ref b2), (.ref b2), (.ref b1), (.ref b1)])) rfl rfl (hb hby d_4_349)) ?_
                    obtain ⟨cl_b2_14, Ar_b2_14, q_b2_14, S_b2_14, N_b2_14, H_b2_14, G_b2_14⟩ := V_b2_12
                    obtain ⟨T14, h14, X14, e14, W14, st14⟩ := stC X12 hx hZ e12 Ar_b2_14 (j := (5 : Int32)) (inb_of S_b2_14 ⟨by decide, by decide⟩) (g := (mkF m 350 #[vr tc, vi ln] [(.int x5), (.int 5), (.ref b2), (.ref b2), (.ref b1), (.ref b1)])) rfl rfl (hb hby d_4_350)
                    have V_b2_14 : Arv Z h14 b2 k2 .char (8 : Int32) [(.int (nar .char x0)), (.int (nar .char x1)), (.int (nar .char x2)), (.int (nar .char x3)), (.int (nar .char x4)), (.int (nar .char x5)), (.int 0), (.int 0)] (.int 0) := Arv.set Ar_b2_14 q_b2_14 S_b2_14 N_b2_14 H_b2_14 G_b2_14 (fits_nar_char _) W14 5 rfl (Nat.le_of_ble_eq_true rfl)
                    refine OEndsH.st st14 ?_
                    replace V_tc := V_tc.other W14 ne_tc_b2
                    replace A1 := A1.wr W14
                    replace F_value_b1 := F_value_b1.other W14 (Or.inl ne_b1_b2)
                    replace F_coder_b1 := F_coder_b1.other W14 (Or.inl ne_b1_b2)
                    have S_b1' : Safe Z EL vm0 h14 b1 := Safe.wr W14 S_b2 A0.1 S_b1
                    have S_b2' : Safe Z EL vm0 h14 b2 := Safe.wr W14 S_b2 A0.1 S_b2
                    have A' : CHr Z EL s.vm s.heap vm0 h14 := A0.trans (CHr.wr W14 S_b2 A0.1)
                    replace S_b1 := S_b1'
                    replace S_b2 := S_b2'
                    replace A0 := A'
                    replace hk0 := Nat.le_trans hk0 (Keep.of_wr W14).1
                    replace O0 : Ext Z.heap h14 := ext_wr O0 W14 ge_b2
                    replace N0 := Fr.snoc X14 N0 ge_b2
                    replace K0 : Keep h0 h14 [] := K0.wr W14 (Or.inr sz_b2)
                    refine OEndsH.st (S' := T14.setTop (mkF m 357 #[vr tc, vi ln] [(.int 6), (.ref tc), (.int 6), (.ref b2), (.ref b2), (.ref b1), (.ref b1)])) (fun _ k => ?_) ?_
                    · refine XS.dup X14.here hx rfl (hb hby d_4_351) rfl rfl ?_
                      refine XS.bipush X14.here hx rfl (hb hby d_4_352) ?_
                      refine XS.aloadN X14.here hx rfl (hb hby d_4_354) rfl rfl ?_
                      refine XS.bipush X14.here hx rfl (hb hby d_4_355) ?_
                      exact k
                    obtain ⟨cl_tc_15, Ar_tc_15, q_tc_15, S_tc_15, N_tc_15, H_tc_15, G_tc_15⟩ := id V_tc
                    refine OEndsH.st (S' := T14.setTop (mkF m 358 #[vr tc, vi ln] [(.int x6), (.int 6), (.ref b2), (.ref b2), (.ref b1), (.ref b1)])) (X14.caload hx (j := (6 : Int32)) (v := (.int x6)) (by rw [e14]; exact Ar_tc_15.1) (State.isArrayOf_alike hZ.alike Ar_tc_15.2.1) Ar_tc_15.2.2 (inb_of S_tc_15 ⟨by decide, by decide⟩) (H_tc_15.at (inb_of S_tc_15 ⟨by decide, by decide⟩) rfl) (g := (mkF m 357 #[vr tc, vi ln] [(.int 6), (.ref tc), (.int 6), (.ref b2), (.ref b2), (.ref b1), (.ref b1)])) rfl rfl (hb hby d_4_357)) ?_
                    obtain ⟨cl_b2_16, Ar_b2_16, q_b2_16, S_b2_16, N_b2_16, H_b2_16, G_b2_16⟩ := V_b2_14
                    obtain ⟨T16, h16, X16, e16, W16, st16⟩ := stC X14 hx hZ e14 Ar_b2_16 (j := (6 : Int32)) (inb_of S_b2_16 ⟨by decide, by decide⟩) (g := (mkF m 358 #[vr tc, vi ln] [(.int x6), (.int 6), (.ref b2), (.ref b2), (.ref b1), (.ref b1)])) rfl rfl (hb hby d_4_358)
                    have V_b2_16 : Arv Z h16 b2 k2 .char (8 : Int32) [(.int (nar .char x0)), (.int (nar .char x1)), (.int (nar .char x2)), (.int (nar .char x3)), (.int (nar .char x4)), (.int (nar .char x5)), (.int (nar .char x6)), (.int 0)] (.int 0) := Arv.set Ar_b2_16 q_b2_16 S_b2_16 N_b2_16 H_b2_16 G_b2_16 (fits_nar_char _) W16 6 rfl (Nat.le_of_ble_eq_true rfl)
                    refine OEndsH.st st16 ?_
                    replace V_tc := V_tc.other W16 ne_tc_b2
                    replace A1 := A1.wr W16
                    replace F_value_b1 := F_value_b1.other W16 (Or.inl ne_b1_b2)
                    replace F_coder_b1 := F_coder_b1.other W16 (Or.inl ne_b1_b2)
                    have S_b1' : Safe Z EL vm0 h16 b1 := Safe.wr W16 S_b2 A0.1 S_b1
                    have S_b2' : Safe Z EL vm0 h16 b2 := Safe.wr W16 S_b2 A0.1 S_b2
                    have A' : CHr Z EL s.vm s.heap vm0 h16 := A0.trans (CHr.wr W16 S_b2 A0.1)
                    replace S_b1 := S_b1'
                    replace S_b2 := S_b2'
                    replace A0 := A'
                    replace hk0 := Nat.le_trans hk0 (Keep.of_wr W16).1
                    replace O0 : Ext Z.heap h16 := ext_wr O0 W16 ge_b2
                    replace N0 := Fr.snoc X16 N0 ge_b2
                    replace K0 : Keep h0 h16 [] := K0.wr W16 (Or.inr sz_b2)
                    refine OEndsH.st (S' := T16.setTop (mkF m 365 #[vr tc, vi ln] [(.int 7), (.ref tc), (.int 7), (.ref b2), (.ref b2), (.ref b1), (.ref b1)])) (fun _ k => ?_) ?_
                    · refine XS.dup X16.here hx rfl (hb hby d_4_359) rfl rfl ?_
                      refine XS.bipush X16.here hx rfl (hb hby d_4_360) ?_
                      refine XS.aloadN X16.here hx rfl (hb hby d_4_362) rfl rfl ?_
                      refine XS.bipush X16.here hx rfl (hb hby d_4_363) ?_
                      exact k
                    obtain ⟨cl_tc_17, Ar_tc_17, q_tc_17, S_tc_17, N_tc_17, H_tc_17, G_tc_17⟩ := id V_tc
                    refine OEndsH.st (S' := T16.setTop (mkF m 366 #[vr tc, vi ln] [(.int x7), (.int 7), (.ref b2), (.ref b2), (.ref b1), (.ref b1)])) (X16.caload hx (j := (7 : Int32)) (v := (.int x7)) (by rw [e16]; exact Ar_tc_17.1) (State.isArrayOf_alike hZ.alike Ar_tc_17.2.1) Ar_tc_17.2.2 (inb_of S_tc_17 ⟨by decide, by decide⟩) (H_tc_17.at (inb_of S_tc_17 ⟨by decide, by decide⟩) rfl) (g := (mkF m 365 #[vr tc, vi ln] [(.int 7), (.ref tc), (.int 7), (.ref b2), (.ref b2), (.ref b1), (.ref b1)])) rfl rfl (hb hby d_4_365)) ?_
                    obtain ⟨cl_b2_18, Ar_b2_18, q_b2_18, S_b2_18, N_b2_18, H_b2_18, G_b2_18⟩ := V_b2_16
                    obtain ⟨T18, h18, X18, e18, W18, st18⟩ := stC X16 hx hZ e16 Ar_b2_18 (j := (7 : Int32)) (inb_of S_b2_18 ⟨by decide, by decide⟩) (g := (mkF m 366 #[vr tc, vi ln] [(.int x7), (.int 7), (.ref b2), (.ref b2), (.ref b1), (.ref b1)])) rfl rfl (hb hby d_4_366)
                    have V_b2_18 : Arv Z h18 b2 k2 .char (8 : Int32) [(.int (nar .char x0)), (.int (nar .char x1)), (.int (nar .char x2)), (.int (nar .char x3)), (.int (nar .char x4)), (.int (nar .char x5)), (.int (nar .char x6)), (.int (nar .char x7))] (.int 0) := Arv.set Ar_b2_18 q_b2_18 S_b2_18 N_b2_18 H_b2_18 G_b2_18 (fits_nar_char _) W18 7 rfl (Nat.le_of_ble_eq_true rfl)
                    refine OEndsH.st st18 ?_
                    replace V_tc := V_tc.other W18 ne_tc_b2
                    replace A1 := A1.wr W18
                    replace F_value_b1 := F_value_b1.other W18 (Or.inl ne_b1_b2)
                    replace F_coder_b1 := F_coder_b1.other W18 (Or.inl ne_b1_b2)
                    have S_b1' : Safe Z EL vm0 h18 b1 := Safe.wr W18 S_b2 A0.1 S_b1
                    have S_b2' : Safe Z EL vm0 h18 b2 := Safe.wr W18 S_b2 A0.1 S_b2
                    have A' : CHr Z EL s.vm s.heap vm0 h18 := A0.trans (CHr.wr W18 S_b2 A0.1)
                    replace S_b1 := S_b1'
                    replace S_b2 := S_b2'
                    replace A0 := A'
                    replace hk0 := Nat.le_trans hk0 (Keep.of_wr W18).1
                    replace O0 : Ext Z.heap h18 := ext_wr O0 W18 ge_b2
                    replace N0 := Fr.snoc X18 N0 ge_b2
                    replace K0 : Keep h0 h18 [] := K0.wr W18 (Or.inr sz_b2)
                    simp only [nar_char (x := x0) hx0, nar_char (x := x1) hx1, nar_char (x := x2) hx2, nar_char (x := x3) hx3, nar_char (x := x4) hx4, nar_char (x := x5) hx5, nar_char (x := x6) hx6, nar_char (x := x7) hx7] at V_b2_18
                    have hp19 : ∀ c ∈ ([x0, x1, x2, x3, x4, x5, x6, x7] : List Int32), ¬ c < 0 ∧ ¬ (255 : Int32) < c := by
                      intro c hc; simp only [List.mem_cons, List.not_mem_nil, or_false] at hc
                      rcases hc with rfl | rfl | rfl | rfl | rfl | rfl | rfl | rfl
                      · exact hx0
                      · exact hx1
                      · exact hx2
                      · exact hx3
                      · exact hx4
                      · exact hx5
                      · exact hx6
                      · exact hx7
                    obtain ⟨_, T20, h20, L20, X20, e20, hQ20, st20⟩ := specC X18 hx hZ rfl hown (wq hw 11 rfl) (wq hw 12 rfl) (wq hw 13 rfl) (by decide) (kc := 1) (ks := 8) (SB.of (Q := StrChars.Road.QV Z b1 (8 : Int32) (([x0, x1, x2, x3, x4, x5, x6, x7] : List Int32).map (fun c => c.toInt8.toInt32)) h18 Z.heap.size) (StrChars.Road.backV (W := 1) hZ hws (kI := 4) (wq hw 9 rfl) (cs := ([x0, x1, x2, x3, x4, x5, x6, x7] : List Int32)) (bs := (([x0, x1, x2, x3, x4, x5, x6, x7] : List Int32).map (fun c => c.toInt8.toInt32))) (n := 8) ge_b1 O0.1 A1 F_value_b1 F_coder_b1 V_b2_18 (S_CS.ext O0) hcz rfl rfl (by decide) (by decide) hp19 rfl (by decide) (by decide))) e18 (a := b1) (g := (mkF m 367 #[vr tc, vi ln] [(.ref b2), (.ref b1), (.ref b1)])) rfl (by rw [hml]; rfl) (argsL := [(.ref b2)]) (rest := [(.ref b1)]) (lenOf pd_2 rfl) rfl (by show 2 * 0 + _ ≤ _; exact Nat.le_of_eq rfl) (hb hby d_4_367) (by decide) (by decide)
                    obtain ⟨rfl, Nq20, Kq20, Eq20, Fc20, t20, kb20, gq20, szq20, nq20, Fv20, V20⟩ := hQ20
                    refine OEndsH.st st20 ?_
                    replace N0 := Fr.app N0 Nq20
                    have ne_b1_t20 : b1 ≠ t20 := Nat.ne_of_lt (Nat.lt_of_lt_of_le A1.lt szq20)
                    have ne_b2_t20 : b2 ≠ t20 := Nat.ne_of_lt (Nat.lt_of_lt_of_le V_b2_18.lt szq20)
                    have ne_tc_t20 : tc ≠ t20 := Nat.ne_of_lt (Nat.lt_of_lt_of_le V_tc.lt szq20)
                    have ge_t20 : Z.heap.size ≤ t20 := Nat.le_trans O0.1 szq20
                    have S_t20 : Safe Z EL vm0 h18 t20 := Safe.new szq20
                    have sz_t20 : h0.size ≤ t20 := Nat.le_trans K0.1 szq20
                    replace V_tc := V_tc.keep Kq20 (ninS ne_tc_b1 nin0)
                    replace A1 := A1.keep Kq20
                    replace V_b2_18 := V_b2_18.keep Kq20 (ninS (Ne.symm ne_b1_b2) nin0)
                    have S_b1' : Safe Z EL vm0 h20 b1 := Safe.keep Kq20 (sfS S_b1 sf0) A0.1 S_b1
                    have S_b2' : Safe Z EL vm0 h20 b2 := Safe.keep Kq20 (sfS S_b1 sf0) A0.1 S_b2
                    have S_t20' : Safe Z EL vm0 h20 t20 := Safe.keep Kq20 (sfS S_b1 sf0) A0.1 S_t20
                    have A' : CHr Z EL s.vm s.heap vm0 h20 := A0.trans (CHr.keep Kq20 (sfS S_b1 sf0) A0.1)
                    replace S_b1 := S_b1'
                    replace S_b2 := S_b2'
                    replace S_t20 := S_t20'
                    replace A0 := A'
                    replace hk0 := Nat.le_trans hk0 Kq20.1
                    replace O0 : Ext Z.heap h20 := ext_keep O0 Kq20 (allS ge_b1 all0)
                    replace K0 : Keep h0 h20 [] := K0.trans Kq20 (allS (Or.inr sz_b1) all0)
                    replace V20 : Arv Z h20 t20 kb20 .byte (Int32.ofNat 8) [(.int (x0).toInt8.toInt32), (.int (x1).toInt8.toInt32), (.int (x2).toInt8.toInt32), (.int (x3).toInt8.toInt32), (.int (x4).toInt8.toInt32), (.int (x5).toInt8.toInt32), (.int (x6).toInt8.toInt32), (.int (x7).toInt8.toInt32)] (.int 0) := V20
                    clear V_b2_18
                    exact OEndsH.ret X20 hx hZ hEL e20 hS0 hk0 A0 hret hlk rfl (Or.inr (Or.inr (Or.inr (Or.inr ⟨rfl, rfl, rfl⟩)))) (hb hby d_4_370) (by decide) (by decide) ⟨b1, 8, rfl, N0, K0, (by decide), q8, A1, Fc20, t20, _, Fv20, V20⟩
                  · refine OEndsH.st (S' := T0.setTop (mkF m 371 #[vr tc, vi ln] [])) (fun _ k => ?_) ?_
                    · refine XS.icmpYes X0.here hx rfl (pc0 := 304) (pc' := 371) rfl (hb hby d_4_304) rfl (feq q8).2 (by decide) (by decide) ?_
                      exact k
                    obtain ⟨T1, h1, X1, e1, E1, A1, D1, U1, st1⟩ := newO X0 hx hZ hown (wq hw 8 rfl) (wq hw 9 rfl) (wq hw 10 rfl) e0 (g := (mkF m 371 #[vr tc, vi ln] [])) rfl (hb hby d_4_371) (by decide) (by decide)
                    obtain ⟨b1, g1⟩ : ∃ z, z = h0.size := ⟨_, rfl⟩
                    rw [← g1] at A1 D1 U1 st1
                    refine OEndsH.st st1 ?_
                    have ne_tc_b1 : tc ≠ b1 := Nat.ne_of_lt (Nat.lt_of_lt_of_le V_tc.lt (Nat.le_of_eq g1.symm))
                    have ge_b1 : Z.heap.size ≤ b1 := Nat.le_trans O0.1 (Nat.le_of_eq g1.symm)
                    have sz_b1 : h0.size ≤ b1 := Nat.le_trans K0.1 (Nat.le_of_eq g1.symm)
                    have S_b1 : Safe Z EL vm0 h0 b1 := Safe.new (Nat.le_of_eq g1.symm)
                    replace V_tc := V_tc.ext E1
                    have S_b1' : Safe Z EL vm0 h1 b1 := Safe.ext E1 A0.1 S_b1
                    have A' : CHr Z EL s.vm s.heap vm0 h1 := A0.trans (CHr.ext E1 A0.1)
                    replace S_b1 := S_b1'
                    replace A0 := A'
                    replace hk0 := Nat.le_trans hk0 E1.1
                    replace O0 : Ext Z.heap h1 := ext_trans O0 E1
                    replace K0 : Keep h0 h1 [] := K0.ext E1
                    have F_value_b1 : Fld Z h1 b1 "java/lang/String" "value" "[B" .null := D1 (Or.inr (wq hw 23 rfl)) (ty := (.array .byte)) (by decide)
                    have F_coder_b1 : Fld Z h1 b1 "java/lang/String" "coder" "B" (.int 0) := D1 (Or.inr (wq hw 24 rfl)) (ty := .byte) (by decide)
                    refine OEndsH.st (S' := T1.setTop (mkF m 377 #[vr tc, vi ln] [(.int 9), (.ref b1), (.ref b1)])) (fun _ k => ?_) ?_
                    · refine XS.dup X1.here hx rfl (hb hby d_4_374) rfl rfl ?_
                      refine XS.bipush X1.here hx rfl (hb hby d_4_375) ?_
                      exact k
                    obtain ⟨T2, h2, k2, X2, e2, E2, A2, st2⟩ := newP X1 hx hZ (wq hw 0 rfl) e1 (g := (mkF m 377 #[vr tc, vi ln] [(.int 9), (.ref b1), (.ref b1)])) rfl (hb hby d_4_377) rfl (by decide) (cap := 9) (by decide) (by decide) (by decide) (by decide)
                    obtain ⟨b2, g2⟩ : ∃ z, z = h1.size := ⟨_, rfl⟩
                    rw [← g2] at A2 st2
                    refine OEndsH.st st2 ?_
                    have ne_b1_b2 : b1 ≠ b2 := Nat.ne_of_lt (Nat.lt_of_lt_of_le A1.lt (Nat.le_of_eq g2.symm))
                    have ne_tc_b2 : tc ≠ b2 := Nat.ne_of_lt (Nat.lt_of_lt_of_le V_tc.lt (Nat.le_of_eq g2.symm))
                    have ge_b2 : Z.heap.size ≤ b2 := Nat.le_trans O0.1 (Nat.le_of_eq g2.symm)
                    have sz_b2 : h0.size ≤ b2 := Nat.le_trans K0.1 (Nat.le_of_eq g2.symm)
                    have S_b2 : Safe Z EL vm0 h1 b2 := Safe.new (Nat.le_of_eq g2.symm)
                    replace V_tc := V_tc.ext E2
                    replace A1 := A1.ext E2
                    replace F_value_b1 := F_value_b1.ext E2
                    replace F_coder_b1 := F_coder_b1.ext E2
                    have S_b1' : Safe Z EL vm0 h2 b1 := Safe.ext E2 A0.1 S_b1
                    have S_b2' : Safe Z EL vm0 h2 b2 := Safe.ext E2 A0.1 S_b2
                    have A' : CHr Z EL s.vm s.heap vm0 h2 := A0.trans (CHr.ext E2 A0.1)
                    replace S_b1 := S_b1'
                    replace S_b2 := S_b2'
                    replace A0 := A'
                    replace hk0 := Nat.le_trans hk0 E2.1
                    replace O0 : Ext Z.heap h2 := ext_trans O0 E2
                    replace K0 : Keep h0 h2 [] := K0.ext E2
                    have V_b2 : Arv Z h2 b2 k2 .char (9 : Int32) [(.int 0), (.int 0), (.int 0), (.int 0), (.int 0), (.int 0), (.int 0), (.int 0), (.int 0)] (.int 0) := (Arv.new A2 (by decide)).pad (pad_rep [] (.int 0) 9)
                    refine OEndsH.st (S' := T2.setTop (mkF m 383 #[vr tc, vi ln] [(.int 0), (.ref tc), (.int 0), (.ref b2), (.ref b2), (.ref b1), (.ref b1)])) (fun _ k => ?_) ?_
                    · refine XS.dup X2.here hx rfl (hb hby d_4_379) rfl rfl ?_
                      refine XS.iconst X2.here hx rfl (hb hby d_4_380) ?_
                      refine XS.aloadN X2.here hx rfl (hb hby d_4_381) rfl rfl ?_
                      refine XS.iconst X2.here hx rfl (hb hby d_4_382) ?_
                      exact k
                    obtain ⟨cl_tc_3, Ar_tc_3, q_tc_3, S_tc_3, N_tc_3, H_tc_3, G_tc_3⟩ := id V_tc
                    refine OEndsH.st (S' := T2.setTop (mkF m 384 #[vr tc, vi ln] [(.int x0), (.int 0), (.ref b2), (.ref b2), (.ref b1), (.ref b1)])) (X2.caload hx (j := (0 : Int32)) (v := (.int x0)) (by rw [e2]; exact Ar_tc_3.1) (State.isArrayOf_alike hZ.alike Ar_tc_3.2.1) Ar_tc_3.2.2 (inb_of S_tc_3 ⟨by decide, by decide⟩) (H_tc_3.at (inb_of S_tc_3 ⟨by decide, by decide⟩) rfl) (g := (mkF m 383 #[vr tc, vi ln] [(.int 0), (.ref tc), (.int 0), (.ref b2), (.ref b2), (.ref b1), (.ref b1)])) rfl rfl (hb hby d_4_383)) ?_
                    obtain ⟨cl_b2_4, Ar_b2_4, q_b2_4, S_b2_4, N_b2_4, H_b2_4, G_b2_4⟩ := V_b2
                    obtain ⟨T4, h4, X4, e4, W4, st4⟩ := stC X2 hx hZ e2 Ar_b2_4 (j := (0 : Int32)) (inb_of S_b2_4 ⟨by decide, by decide⟩) (g := (mkF m 384 #[vr tc, vi ln] [(.int x0), (.int 0), (.ref b2), (.ref b2), (.ref b1), (.ref b1)])) rfl rfl (hb hby d_4_384)
                    have V_b2_4 : Arv Z h4 b2 k2 .char (9 : Int32) [(.int (nar .char x0)), (.int 0), (.int 0), (.int 0), (.int 0), (.int 0), (.int 0), (.int 0), (.int 0)] (.int 0) := Arv.set Ar_b2_4 q_b2_4 S_b2_4 N_b2_4 H_b2_4 G_b2_4 (fits_nar_char _) W4 0 rfl (Nat.le_of_ble_eq_true rfl)
                    refine OEndsH.st st4 ?_
                    replace V_tc := V_tc.other W4 ne_tc_b2
                    replace A1 := A1.wr W4
                    replace F_value_b1 := F_value_b1.other W4 (Or.inl ne_b1_b2)
                    replace F_coder_b1 := F_coder_b1.other W4 (Or.inl ne_b1_b2)
                    have S_b1' : Safe Z EL vm0 h4 b1 := Safe.wr W4 S_b2 A0.1 S_b1
                    have S_b2' : Safe Z EL vm0 h4 b2 := Safe.wr W4 S_b2 A0.1 S_b2
                    have A' : CHr Z EL s.vm s.heap vm0 h4 := A0.trans (CHr.wr W4 S_b2 A0.1)
                    replace S_b1 := S_b1'
                    replace S_b2 := S_b2'
                    replace A0 := A'
                    replace hk0 := Nat.le_trans hk0 (Keep.of_wr W4).1
                    replace O0 : Ext Z.heap h4 := ext_wr O0 W4 ge_b2
                    replace N0 := Fr.snoc X4 N0 ge_b2
                    replace K0 : Keep h0 h4 [] := K0.wr W4 (Or.inr sz_b2)
                    refine OEndsH.st (S' := T4.setTop (mkF m 389 #[vr tc, vi ln] [(.int 1), (.ref tc), (.int 1), (.ref b2), (.ref b2), (.ref b1), (.ref b1)])) (fun _ k => ?_) ?_
                    · refine XS.dup X4.here hx rfl (hb hby d_4_385) rfl rfl ?_
                      refine XS.iconst X4.here hx rfl (hb hby d_4_386) ?_
                      refine XS.aloadN X4.here hx rfl (hb hby d_4_387) rfl rfl ?_
                      refine XS.iconst X4.here hx rfl (hb hby d_4_388) ?_
                      exact k
                    obtain ⟨cl_tc_5, Ar_tc_5, q_tc_5, S_tc_5, N_tc_5, H_tc_5, G_tc_5⟩ := id V_tc
                    refine OEndsH.st (S' := T4.setTop (mkF m 390 #[vr tc, vi ln] [(.int x1), (.int 1), (.ref b2), (.ref b2), (.ref b1), (.ref b1)])) (X4.caload hx (j := (1 : Int32)) (v := (.int x1)) (by rw [e4]; exact Ar_tc_5.1) (State.isArrayOf_alike hZ.alike Ar_tc_5.2.1) Ar_tc_5.2.2 (inb_of S_tc_5 ⟨by decide, by decide⟩) (H_tc_5.at (inb_of S_tc_5 ⟨by decide, by decide⟩) rfl) (g := (mkF m 389 #[vr tc, vi ln] [(.int 1), (.ref tc), (.int 1), (.ref b2), (.ref b2), (.ref b1), (.ref b1)])) rfl rfl (hb hby d_4_389)) ?_
                    obtain ⟨cl_b2_6, Ar_b2_6, q_b2_6, S_b2_6, N_b2_6, H_b2_6, G_b2_6⟩ := V_b2_4
                    obtain ⟨T6, h6, X6, e6, W6, st6⟩ := stC X4 hx hZ e4 Ar_b2_6 (j := (1 : Int32)) (inb_of S_b2_6 ⟨by decide, by decide⟩) (g := (mkF m 390 #[vr tc, vi ln] [(.int x1), (.int 1), (.ref b2), (.ref b2), (.ref b1), (.ref b1)])) rfl rfl (hb hby d_4_390)
                    have V_b2_6 : Arv Z h6 b2 k2 .char (9 : Int32) [(.int (nar .char x0)), (.int (nar .char x1)), (.int 0), (.int 0), (.int 0), (.int 0), (.int 0), (.int 0), (.int 0)] (.int 0) := Arv.set Ar_b2_6 q_b2_6 S_b2_6 N_b2_6 H_b2_6 G_b2_6 (fits_nar_char _) W6 1 rfl (Nat.le_of_ble_eq_true rfl)
                    refine OEndsH.st st6 ?_
                    replace V_tc := V_tc.other W6 ne_tc_b2
                    replace A1 := A1.wr W6
                    replace F_value_b1 := F_value_b1.other W6 (Or.inl ne_b1_b2)
                    replace F_coder_b1 := F_coder_b1.other W6 (Or.inl ne_b1_b2)
                    have S_b1' : Safe Z EL vm0 h6 b1 := Safe.wr W6 S_b2 A0.1 S_b1
                    have S_b2' : Safe Z EL vm0 h6 b2 := Safe.wr W6 S_b2 A0.1 S_b2
                    have A' : CHr Z EL s.vm s.heap vm0 h6 := A0.trans (CHr.wr W6 S_b2 A0.1)
                    replace S_b1 := S_b1'
                    replace S_b2 := S_b2'
                    replace A0 := A'
                    replace hk0 := Nat.le_trans hk0 (Keep.of_wr W6).1
                    replace O0 : Ext Z.heap h6 := ext_wr O0 W6 ge_b2
                    replace N0 := Fr.snoc X6 N0 ge_b2
                    replace K0 : Keep h0 h6 [] := K0.wr W6 (Or.inr sz_b2)
                    refine OEndsH.st (S' := T6.setTop (mkF m 395 #[vr tc, vi ln] [(.int 2), (.ref tc), (.int 2), (.ref b2), (.ref b2), (.ref b1), (.ref b1)])) (fun _ k => ?_) ?_
                    · refine XS.dup X6.here hx rfl (hb hby d_4_391) rfl rfl ?_
                      refine XS.iconst X6.here hx rfl (hb hby d_4_392) ?_
                      refine XS.aloadN X6.here hx rfl (hb hby d_4_393) rfl rfl ?_
                      refine XS.iconst X6.here hx rfl (hb hby d_4_394) ?_
                      exact k
                    obtain ⟨cl_tc_7, Ar_tc_7, q_tc_7, S_tc_7, N_tc_7, H_tc_7, G_tc_7⟩ := id V_tc
                    refine OEndsH.st (S' := T6.setTop (mkF m 396 #[vr tc, vi ln] [(.int x2), (.int 2), (.ref b2), (.ref b2), (.ref b1), (.ref b1)])) (X6.caload hx (j := (2 : Int32)) (v := (.int x2)) (by rw [e6]; exact Ar_tc_7.1) (State.isArrayOf_alike hZ.alike Ar_tc_7.2.1) Ar_tc_7.2.2 (inb_of S_tc_7 ⟨by decide, by decide⟩) (H_tc_7.at (inb_of S_tc_7 ⟨by decide, by decide⟩) rfl) (g := (mkF m 395 #[vr tc, vi ln] [(.int 2), (.ref tc), (.int 2), (.ref b2), (.ref b2), (.ref b1), (.ref b1)])) rfl rfl (hb hby d_4_395)) ?_
                    obtain ⟨cl_b2_8, Ar_b2_8, q_b2_8, S_b2_8, N_b2_8, H_b2_8, G_b2_8⟩ := V_b2_6
                    obtain ⟨T8, h8, X8, e8, W8, st8⟩ := stC X6 hx hZ e6 Ar_b2_8 (j := (2 : Int32)) (inb_of S_b2_8 ⟨by decide, by decide⟩) (g := (mkF m 396 #[vr tc, vi ln] [(.int x2), (.int 2), (.ref b2), (.ref b2), (.ref b1), (.ref b1)])) rfl rfl (hb hby d_4_396)
                    have V_b2_8 : Arv Z h8 b2 k2 .char (9 : Int32) [(.int (nar .char x0)), (.int (nar .char x1)), (.int (nar .char x2)), (.int 0), (.int 0), (.int 0), (.int 0), (.int 0), (.int 0)] (.int 0) := Arv.set Ar_b2_8 q_b2_8 S_b2_8 N_b2_8 H_b2_8 G_b2_8 (fits_nar_char _) W8 2 rfl (Nat.le_of_ble_eq_true rfl)
                    refine OEndsH.st st8 ?_
                    replace V_tc := V_tc.other W8 ne_tc_b2
                    replace A1 := A1.wr W8
                    replace F_value_b1 := F_value_b1.other W8 (Or.inl ne_b1_b2)
                    replace F_coder_b1 := F_coder_b1.other W8 (Or.inl ne_b1_b2)
                    have S_b1' : Safe Z EL vm0 h8 b1 := Safe.wr W8 S_b2 A0.1 S_b1
                    have S_b2' : Safe Z EL vm0 h8 b2 := Safe.wr W8 S_b2 A0.1 S_b2
                    have A' : CHr Z EL s.vm s.heap vm0 h8 := A0.trans (CHr.wr W8 S_b2 A0.1)
                    replace S_b1 := S_b1'
                    replace S_b2 := S_b2'
                    replace A0 := A'
                    replace hk0 := Nat.le_trans hk0 (Keep.of_wr W8).1
                    replace O0 : Ext Z.heap h8 := ext_wr O0 W8 ge_b2
                    replace N0 := Fr.snoc X8 N0 ge_b2
                    replace K0 : Keep h0 h8 [] := K0.wr W8 (Or.inr sz_b2)
                    refine OEndsH.st (S' := T8.setTop (mkF m 401 #[vr tc, vi ln] [(.int 3), (.ref tc), (.int 3), (.ref b2), (.ref b2), (.ref b1), (.ref b1)])) (fun _ k => ?_) ?_
                    · refine XS.dup X8.here hx rfl (hb hby d_4_397) rfl rfl ?_
                      refine XS.iconst X8.here hx rfl (hb hby d_4_398) ?_
                      refine XS.aloadN X8.here hx rfl (hb hby d_4_399) rfl rfl ?_
                      refine XS.iconst X8.here hx rfl (hb hby d_4_400) ?_
                      exact k
                    obtain ⟨cl_tc_9, Ar_tc_9, q_tc_9, S_tc_9, N_tc_9, H_tc_9, G_tc_9⟩ := id V_tc
                    refine OEndsH.st (S' := T8.setTop (mkF m 402 #[vr tc, vi ln] [(.int x3), (.int 3), (.ref b2), (.ref b2), (.ref b1), (.ref b1)])) (X8.caload hx (j := (3 : Int32)) (v := (.int x3)) (by rw [e8]; exact Ar_tc_9.1) (State.isArrayOf_alike hZ.alike Ar_tc_9.2.1) Ar_tc_9.2.2 (inb_of S_tc_9 ⟨by decide, by decide⟩) (H_tc_9.at (inb_of S_tc_9 ⟨by decide, by decide⟩) rfl) (g := (mkF m 401 #[vr tc, vi ln] [(.int 3), (.ref tc), (.int 3), (.ref b2), (.ref b2), (.ref b1), (.ref b1)])) rfl rfl (hb hby d_4_401)) ?_
                    obtain ⟨cl_b2_10, Ar_b2_10, q_b2_10, S_b2_10, N_b2_10, H_b2_10, G_b2_10⟩ := V_b2_8
                    obtain ⟨T10, h10, X10, e10, W10, st10⟩ := stC X8 hx hZ e8 Ar_b2_10 (j := (3 : Int32)) (inb_of S_b2_10 ⟨by decide, by decide⟩) (g := (mkF m 402 #[vr tc, vi ln] [(.int x3), (.int 3), (.ref b2), (.ref b2), (.ref b1), (.ref b1)])) rfl rfl (hb hby d_4_402)
                    have V_b2_10 : Arv Z h10 b2 k2 .char (9 : Int32) [(.int (nar .char x0)), (.int (nar .char x1)), (.int (nar .char x2)), (.int (nar .char x3)), (.int 0), (.int 0), (.int 0), (.int 0), (.int 0)] (.int 0) := Arv.set Ar_b2_10 q_b2_10 S_b2_10 N_b2_10 H_b2_10 G_b2_10 (fits_nar_char _) W10 3 rfl (Nat.le_of_ble_eq_true rfl)
                    refine OEndsH.st st10 ?_
                    replace V_tc := V_tc.other W10 ne_tc_b2
                    replace A1 := A1.wr W10
                    replace F_value_b1 := F_value_b1.other W10 (Or.inl ne_b1_b2)
                    replace F_coder_b1 := F_coder_b1.other W10 (Or.inl ne_b1_b2)
                    have S_b1' : Safe Z EL vm0 h10 b1 := Safe.wr W10 S_b2 A0.1 S_b1
                    have S_b2' : Safe Z EL vm0 h10 b2 := Safe.wr W10 S_b2 A0.1 S_b2
                    have A' : CHr Z EL s.vm s.heap vm0 h10 := A0.trans (CHr.wr W10 S_b2 A0.1)
                    replace S_b1 := S_b1'
                    replace S_b2 := S_b2'
                    replace A0 := A'
                    replace hk0 := Nat.le_trans hk0 (Keep.of_wr W10).1
                    replace O0 : Ext Z.heap h10 := ext_wr O0 W10 ge_b2
                    replace N0 := Fr.snoc X10 N0 ge_b2
                    replace K0 : Keep h0 h10 [] := K0.wr W10 (Or.inr sz_b2)
                    refine OEndsH.st (S' := T10.setTop (mkF m 407 #[vr tc, vi ln] [(.int 4), (.ref tc), (.int 4), (.ref b2), (.ref b2), (.ref b1), (.ref b1)])) (fun _ k => ?_) ?_
                    · refine XS.dup X10.here hx rfl (hb hby d_4_403) rfl rfl ?_
                      refine XS.iconst X10.here hx rfl (hb hby d_4_404) ?_
                      refine XS.aloadN X10.here hx rfl (hb hby d_4_405) rfl rfl ?_
                      refine XS.iconst X10.here hx rfl (hb hby d_4_406) ?_
                      exact k
                    obtain ⟨cl_tc_11, Ar_tc_11, q_tc_11, S_tc_11, N_tc_11, H_tc_11, G_tc_11⟩ := id V_tc
                    refine OEndsH.st (S' := T10.setTop (mkF m 408 #[vr tc, vi ln] [(.int x4), (.int 4), (.ref b2), (.ref b2), (.ref b1), (.ref b1)])) (X10.caload hx (j := (4 : Int32)) (v := (.int x4)) (by rw [e10]; exact Ar_tc_11.1) (State.isArrayOf_alike hZ.alike Ar_tc_11.2.1) Ar_tc_11.2.2 (inb_of S_tc_11 ⟨by decide, by decide⟩) (H_tc_11.at (inb_of S_tc_11 ⟨by decide, by decide⟩) rfl) (g := (mkF m 407 #[vr tc, vi ln] [(.int 4), (.ref tc), (.int 4), (.ref b2), (.ref b2), (.ref b1), (.ref b1)])) rfl rfl (hb hby d_4_407)) ?_
                    obtain ⟨cl_b2_12, Ar_b2_12, q_b2_12, S_b2_12, N_b2_12, H_b2_12, G_b2_12⟩ := V_b2_10
                    obtain ⟨T12, h12, X12, e12, W12, st12⟩ := stC X10 hx hZ e10 Ar_b2_12 (j := (4 : Int32)) (inb_of S_b2_12 ⟨by decide, by decide⟩) (g := (mkF m 408 #[vr tc, vi ln] [(.int x4), (.int 4), (.ref b2), (.ref b2), (.ref b1), (.ref b1)])) rfl rfl (hb hby d_4_408)
                    have V_b2_12 : Arv Z h12 b2 k2 .char (9 : Int32) [(.int (nar .char x0)), (.int (nar .char x1)), (.int (nar .char x2)), (.int (nar .char x3)), (.int (nar .char x4)), (.int 0), (.int 0), (.int 0), (.int 0)] (.int 0) := Arv.set Ar_b2_12 q_b2_12 S_b2_12 N_b2_12 H_b2_12 G_b2_12 (fits_nar_char _) W12 4 rfl (Nat.le_of_ble_eq_true rfl)
                    refine OEndsH.st st12 ?_
                    replace V_tc := V_tc.other W12 ne_tc_b2
                    replace A1 := A1.wr W12
                    replace F_value_b1 := F_value_b1.other W12 (Or.inl ne_b1_b2)
                    replace F_coder_b1 := F_coder_b1.other W12 (Or.inl ne_b1_b2)
                    have S_b1' : Safe Z EL vm0 h12 b1 := Safe.wr W12 S_b2 A0.1 S_b1
                    have S_b2' : Safe Z EL vm0 h12 b2 := Safe.wr W12 S_b2 A0.1 S_b2
                    have A' : CHr Z EL s.vm s.heap vm0 h12 := A0.trans (CHr.wr W12 S_b2 A0.1)
                    replace S_b1 := S_b1'
                    replace S_b2 := S_b2'
                    replace A0 := A'
                    replace hk0 := Nat.le_trans hk0 (Keep.of_wr W12).1
                    replace O0 : Ext Z.heap h12 := ext_wr O0 W12 ge_b2
                    replace N0 := Fr.snoc X12 N0 ge_b2
                    replace K0 : Keep h0 h12 [] := K0.wr W12 (Or.inr sz_b2)
                    refine OEndsH.st (S' := T12.setTop (mkF m 413 #[vr tc, vi ln] [(.int 5), (.ref tc), (.int 5), (.ref b2), (.ref b2), (.ref b1), (.ref b1)])) (fun _ k => ?_) ?_
                    · refine XS.dup X12.here hx rfl (hb hby d_4_409) rfl rfl ?_
                      refine XS.iconst X12.here hx rfl (hb hby d_4_410) ?_
                      refine XS.aloadN X12.here hx rfl (hb hby d_4_411) rfl rfl ?_
                      refine XS.iconst X12.here hx rfl (hb hby d_4_412) ?_
                      exact k
                    obtain ⟨cl_tc_13, Ar_tc_13, q_tc_13, S_tc_13, N_tc_13, H_tc_13, G_tc_13⟩ := id V_tc
                    refine OEndsH.st (S' := T12.setTop (mkF m 414 #[vr tc, vi ln] [(.int x5), (.int 5), (.ref b2), (.ref b2), (.ref b1), (.ref b1)])) (X12.caload hx (j := (5 : Int32)) (v := (.int x5)) (by rw [e12]; exact Ar_tc_13.1) (State.isArrayOf_alike hZ.alike Ar_tc_13.2.1) Ar_tc_13.2.2 (inb_of S_tc_13 ⟨by decide, by decide⟩) (H_tc_13.at (inb_of S_tc_13 ⟨by decide, by decide⟩) rfl) (g := (mkF m 413 #[vr tc, vi ln] [(.int 5), (.ref tc), (.int 5), (.ref b2), (.ref b2), (.ref b1), (.ref b1)])) rfl rfl (hb hby d_4_413)) ?_
                    obtain ⟨cl_b2_14, Ar_b2_14, q_b2_14, S_b2_14, N_b2_14, H_b2_14, G_b2_14⟩ := V_b2_12
                    obtain ⟨T14, h14, X14, e14, W14, st14⟩ := stC X12 hx hZ e12 Ar_b2_14 (j := (5 : Int32)) (inb_of S_b2_14 ⟨by decide, by decide⟩) (g := (mkF m 414 #[vr tc, vi ln] [(.int x5), (.int 5), (.ref b2), (.ref b2), (.ref b1), (.ref b1)])) rfl rfl (hb hby d_4_414)
                    have V_b2_14 : Arv Z h14 b2 k2 .char (9 : Int32) [(.int (nar .char x0)), (.int (nar .char x1)), (.int (nar .char x2)), (.int (nar .char x3)), (.int (nar .char x4)), (.int (nar .char x5)), (.int 0), (.int 0), (.int 0)] (.int 0) := Arv.set Ar_b2_14 q_b2_14 S_b2_14 N_b2_14 H_b2_14 G_b2_14 (fits_nar_char _) W14 5 rfl (Nat.le_of_ble_eq_true rfl)
                    refine OEndsH.st st14 ?_
                    replace V_tc := V_tc.other W14 ne_tc_b2
                    replace A1 := A1.wr W14
                    replace F_value_b1 := F_value_b1.other W14 (Or.inl ne_b1_b2)
                    replace F_coder_b1 := F_coder_b1.other W14 (Or.inl ne_b1_b2)
                    have S_b1' : Safe Z EL vm0 h14 b1 := Safe.wr W14 S_b2 A0.1 S_b1
                    have S_b2' : Safe Z EL vm0 h14 b2 := Safe.wr W14 S_b2 A0.1 S_b2
                    have A' : CHr Z EL s.vm s.heap vm0 h14 := A0.trans (CHr.wr W14 S_b2 A0.1)
                    replace S_b1 := S_b1'
                    replace S_b2 := S_b2'
                    replace A0 := A'
                    replace hk0 := Nat.le_trans hk0 (Keep.of_wr W14).1
                    replace O0 : Ext Z.heap h14 := ext_wr O0 W14 ge_b2
                    replace N0 := Fr.snoc X14 N0 ge_b2
                    replace K0 : Keep h0 h14 [] := K0.wr W14 (Or.inr sz_b2)
                    refine OEndsH.st (S' := T14.setTop (mkF m 421 #[vr tc, vi ln] [(.int 6), (.ref tc), (.int 6), (.ref b2), (.ref b2), (.ref b1), (.ref b1)])) (fun _ k => ?_) ?_
                    · refine XS.dup X14.here hx rfl (hb hby d_4_415) rfl rfl ?_
                      refine XS.bipush X14.here hx rfl (hb hby d_4_416) ?_
                      refine XS.aloadN X14.here hx rfl (hb hby d_4_418) rfl rfl ?_
                      refine XS.bipush X14.here hx rfl (hb hby d_4_419) ?_
                      exact k
                    obtain ⟨cl_tc_15, Ar_tc_15, q_tc_15, S_tc_15, N_tc_15, H_tc_15, G_tc_15⟩ := id V_tc
                    refine OEndsH.st (S' := T14.setTop (mkF m 422 #[vr tc, vi ln] [(.int x6), (.int 6), (.ref b2), (.ref b2), (.ref b1), (.ref b1)])) (X14.caload hx (j := (6 : Int32)) (v := (.int x6)) (by rw [e14]; exact Ar_tc_15.1) (State.isArrayOf_alike hZ.alike Ar_tc_15.2.1) Ar_tc_15.2.2 (inb_of S_tc_15 ⟨by decide, by decide⟩) (H_tc_15.at (inb_of S_tc_15 ⟨by decide, by decide⟩) rfl) (g := (mkF m 421 #[vr tc, vi ln] [(.int 6), (.ref tc), (.int 6), (.ref b2), (.ref b2), (.ref b1), (.ref b1)])) rfl rfl (hb hby d_4_421)) ?_
                    obtain ⟨cl_b2_16, Ar_b2_16, q_b2_16, S_b2_16, N_b2_16, H_b2_16, G_b2_16⟩ := V_b2_14
                    obtain ⟨T16, h16, X16, e16, W16, st16⟩ := stC X14 hx hZ e14 Ar_b2_16 (j := (6 : Int32)) (inb_of S_b2_16 ⟨by decide, by decide⟩) (g := (mkF m 422 #[vr tc, vi ln] [(.int x6), (.int 6), (.ref b2), (.ref b2), (.ref b1), (.ref b1)])) rfl rfl (hb hby d_4_422)
                    have V_b2_16 : Arv Z h16 b2 k2 .char (9 : Int32) [(.int (nar .char x0)), (.int (nar .char x1)), (.int (nar .char x2)), (.int (nar .char x3)), (.int (nar .char x4)), (.int (nar .char x5)), (.int (nar .char x6)), (.int 0), (.int 0)] (.int 0) := Arv.set Ar_b2_16 q_b2_16 S_b2_16 N_b2_16 H_b2_16 G_b2_16 (fits_nar_char _) W16 6 rfl (Nat.le_of_ble_eq_true rfl)
                    refine OEndsH.st st16 ?_
                    replace V_tc := V_tc.other W16 ne_tc_b2
                    replace A1 := A1.wr W16
                    replace F_value_b1 := F_value_b1.other W16 (Or.inl ne_b1_b2)
                    replace F_coder_b1 := F_coder_b1.other W16 (Or.inl ne_b1_b2)
                    have S_b1' : Safe Z EL vm0 h16 b1 := Safe.wr W16 S_b2 A0.1 S_b1
                    have S_b2' : Safe Z EL vm0 h16 b2 := Safe.wr W16 S_b2 A0.1 S_b2
                    have A' : CHr Z EL s.vm s.heap vm0 h16 := A0.trans (CHr.wr W16 S_b2 A0.1)
                    replace S_b1 := S_b1'
                    replace S_b2 := S_b2'
                    replace A0 := A'
                    replace hk0 := Nat.le_trans hk0 (Keep.of_wr W16).1
                    replace O0 : Ext Z.heap h16 := ext_wr O0 W16 ge_b2
                    replace N0 := Fr.snoc X16 N0 ge_b2
                    replace K0 : Keep h0 h16 [] := K0.wr W16 (Or.inr sz_b2)
                    refine OEndsH.st (S' := T16.setTop (mkF m 429 #[vr tc, vi ln] [(.int 7), (.ref tc), (.int 7), (.ref b2), (.ref b2), (.ref b1), (.ref b1)])) (fun _ k => ?_) ?_
                    · refine XS.dup X16.here hx rfl (hb hby d_4_423) rfl rfl ?_
                      refine XS.bipush X16.here hx rfl (hb hby d_4_424) ?_
                      refine XS.aloadN X16.here hx rfl (hb hby d_4_426) rfl rfl ?_
                      refine XS.bipush X16.here hx rfl (hb hby d_4_427) ?_
                      exact k
                    obtain ⟨cl_tc_17, Ar_tc_17, q_tc_17, S_tc_17, N_tc_17, H_tc_17, G_tc_17⟩ := id V_tc
                    refine OEndsH.st (S' := T16.setTop (mkF m 430 #[vr tc, vi ln] [(.int x7), (.int 7), (.ref b2), (.ref b2), (.ref b1), (.ref b1)])) (X16.caload hx (j := (7 : Int32)) (v := (.int x7)) (by rw [e16]; exact Ar_tc_17.1) (State.isArrayOf_alike hZ.alike Ar_tc_17.2.1) Ar_tc_17.2.2 (inb_of S_tc_17 ⟨by decide, by decide⟩) (H_tc_17.at (inb_of S_tc_17 ⟨by decide, by decide⟩) rfl) (g := (mkF m 429 #[vr tc, vi ln] [(.int 7), (.ref tc), (.int 7), (.ref b2), (.ref b2), (.ref b1), (.ref b1)])) rfl rfl (hb hby d_4_429)) ?_
                    obtain ⟨cl_b2_18, Ar_b2_18, q_b2_18, S_b2_18, N_b2_18, H_b2_18, G_b2_18⟩ := V_b2_16
                    obtain ⟨T18, h18, X18, e18, W18, st18⟩ := stC X16 hx hZ e16 Ar_b2_18 (j := (7 : Int32)) (inb_of S_b2_18 ⟨by decide, by decide⟩) (g := (mkF m 430 #[vr tc, vi ln] [(.int x7), (.int 7), (.ref b2), (.ref b2), (.ref b1), (.ref b1)])) rfl rfl (hb hby d_4_430)
                    have V_b2_18 : Arv Z h18 b2 k2 .char (9 : Int32) [(.int (nar .char x0)), (.int (nar .char x1)), (.int (nar .char x2)), (.int (nar .char x3)), (.int (nar .char x4)), (.int (nar .char x5)), (.int (nar .char x6)), (.int (nar .char x7)), (.int 0)] (.int 0) := Arv.set Ar_b2_18 q_b2_18 S_b2_18 N_b2_18 H_b2_18 G_b2_18 (fits_nar_char _) W18 7 rfl (Nat.le_of_ble_eq_true rfl)
                    refine OEndsH.st st18 ?_
                    replace V_tc := V_tc.other W18 ne_tc_b2
                    replace A1 := A1.wr W18
                    replace F_value_b1 := F_value_b1.other W18 (Or.inl ne_b1_b2)
                    replace F_coder_b1 := F_coder_b1.other W18 (Or.inl ne_b1_b2)
                    have S_b1' : Safe Z EL vm0 h18 b1 := Safe.wr W18 S_b2 A0.1 S_b1
                    have S_b2' : Safe Z EL vm0 h18 b2 := Safe.wr W18 S_b2 A0.1 S_b2
                    have A' : CHr Z EL s.vm s.heap vm0 h18 := A0.trans (CHr.wr W18 S_b2 A0.1)
                    replace S_b1 := S_b1'
                    replace S_b2 := S_b2'
                    replace A0 := A'
                    replace hk0 := Nat.le_trans hk0 (Keep.of_wr W18).1
                    replace O0 : Ext Z.heap h18 := ext_wr O0 W18 ge_b2
                    replace N0 := Fr.snoc X18 N0 ge_b2
                    replace K0 : Keep h0 h18 [] := K0.wr W18 (Or.inr sz_b2)
                    refine OEndsH.st (S' := T18.setTop (mkF m 437 #[vr tc, vi ln] [(.int 8), (.ref tc), (.int 8), (.ref b2), (.ref b2), (.ref b1), (.ref b1)])) (fun _ k => ?_) ?_
                    · refine XS.dup X18.here hx rfl (hb hby d_4_431) rfl rfl ?_
                      refine XS.bipush X18.here hx rfl (hb hby d_4_432) ?_
                      refine XS.aloadN X18.here hx rfl (hb hby d_4_434) rfl rfl ?_
                      refine XS.bipush X18.here hx rfl (hb hby d_4_435) ?_
                      exact k
                    obtain ⟨cl_tc_19, Ar_tc_19, q_tc_19, S_tc_19, N_tc_19, H_tc_19, G_tc_19⟩ := id V_tc
                    refine OEndsH.st (S' := T18.setTop (mkF m 438 #[vr tc, vi ln] [(.int x8), (.int 8), (.ref b2), (.ref b2), (.ref b1), (.ref b1)])) (X18.caload hx (j := (8 : Int32)) (v := (.int x8)) (by rw [e18]; exact Ar_tc_19.1) (State.isArrayOf_alike hZ.alike Ar_tc_19.2.1) Ar_tc_19.2.2 (inb_of S_tc_19 ⟨by decide, by decide⟩) (H_tc_19.at (inb_of S_tc_19 ⟨by decide, by decide⟩) rfl) (g := (mkF m 437 #[vr tc, vi ln] [(.int 8), (.ref tc), (.int 8), (.ref b2), (.ref b2), (.ref b1), (.ref b1)])) rfl rfl (hb hby d_4_437)) ?_
                    obtain ⟨cl_b2_20, Ar_b2_20, q_b2_20, S_b2_20, N_b2_20, H_b2_20, G_b2_20⟩ := V_b2_18
                    obtain ⟨T20, h20, X20, e20, W20, st20⟩ := stC X18 hx hZ e18 Ar_b2_20 (j := (8 : Int32)) (inb_of S_b2_20 ⟨by decide, by decide⟩) (g := (mkF m 438 #[vr tc, vi ln] [(.int x8), (.int 8), (.ref b2), (.ref b2), (.ref b1), (.ref b1)])) rfl rfl (hb hby d_4_438)
                    have V_b2_20 : Arv Z h20 b2 k2 .char (9 : Int32) [(.int (nar .char x0)), (.int (nar .char x1)), (.int (nar .char x2)), (.int (nar .char x3)), (.int (nar .char x4)), (.int (nar .char x5)), (.int (nar .char x6)), (.int (nar .char x7)), (.int (nar .char x8))] (.int 0) := Arv.set Ar_b2_20 q_b2_20 S_b2_20 N_b2_20 H_b2_20 G_b2_20 (fits_nar_char _) W20 8 rfl (Nat.le_of_ble_eq_true rfl)
                    refine OEndsH.st st20 ?_
                    replace V_tc := V_tc.other W20 ne_tc_b2
                    replace A1 := A1.wr W20
                    replace F_value_b1 := F_value_b1.other W20 (Or.inl ne_b1_b2)
                    replace F_coder_b1 := F_coder_b1.other W20 (Or.inl ne_b1_b2)
                    have S_b1' : Safe Z EL vm0 h20 b1 := Safe.wr W20 S_b2 A0.1 S_b1
                    have S_b2' : Safe Z EL vm0 h20 b2 := Safe.wr W20 S_b2 A0.1 S_b2
                    have A' : CHr Z EL s.vm s.heap vm0 h20 := A0.trans (CHr.wr W20 S_b2 A0.1)
                    replace S_b1 := S_b1'
                    replace S_b2 := S_b2'
                    replace A0 := A'
                    replace hk0 := Nat.le_trans hk0 (Keep.of_wr W20).1
                    replace O0 : Ext Z.heap h20 := ext_wr O0 W20 ge_b2
                    replace N0 := Fr.snoc X20 N0 ge_b2
                    replace K0 : Keep h0 h20 [] := K0.wr W20 (Or.inr sz_b2)
                    simp only [nar_char (x := x0) hx0, nar_char (x := x1) hx1, nar_char (x := x2) hx2, nar_char (x := x3) hx3, nar_char (x := x4) hx4, nar_char (x := x5) hx5, nar_char (x := x6) hx6, nar_char (x := x7) hx7, nar_char (x := x8) hx8] at V_b2_20
                    have hp21 : ∀ c ∈ ([x0, x1, x2, x3, x4, x5, x6, x7, x8] : List Int32), ¬ c < 0 ∧ ¬ (255 : Int32) < c := by
                      intro c hc; simp only [List.mem_cons, List.not_mem_nil, or_false] at hc
                      rcases hc with rfl | rfl | rfl | rfl | rfl | rfl | rfl | rfl | rfl
                      · exact hx0
                      · exact hx1
                      · exact hx2
                      · exact hx3
                      · exact hx4
                      · exact hx5
                      · exact hx6
                      · exact hx7
                      · exact hx8
                    obtain ⟨_, T22, h22, L22, X22, e22, hQ22, st22⟩ := specC X20 hx hZ rfl hown (wq hw 11 rfl) (wq hw 12 rfl) (wq hw 13 rfl) (by decide) (kc := 1) (ks := 9) (SB.of (Q := StrChars.Road.QV Z b1 (9 : Int32) (([x0, x1, x2, x3, x4, x5, x6, x7, x8] : List Int32).map (fun c => c.toInt8.toInt32)) h20 Z.heap.size) (StrChars.Road.backV (W := 1) hZ hws (kI := 4) (wq hw 9 rfl) (cs := ([x0, x1, x2, x3, x4, x5, x6, x7, x8] : List Int32)) (bs := (([x0, x1, x2, x3, x4, x5, x6, x7, x8] : List Int32).map (fun c => c.toInt8.toInt32))) (n := 9) ge_b1 O0.1 A1 F_value_b1 F_coder_b1 V_b2_20 (S_CS.ext O0) hcz rfl rfl (by decide) (by decide) hp21 rfl (by decide) (by decide))) e20 (a := b1) (g := (mkF m 439 #[vr tc, vi ln] [(.ref b2), (.ref b1), (.ref b1)])) rfl (by rw [hml]; rfl) (argsL := [(.ref b2)]) (rest := [(.ref b1)]) (lenOf pd_2 rfl) rfl (by show 2 * 0 + _ ≤ _; exact Nat.le_of_eq rfl) (hb hby d_4_439) (by decide) (by decide)
                    obtain ⟨rfl, Nq22, Kq22, Eq22, Fc22, t22, kb22, gq22, szq22, nq22, Fv22, V22⟩ := hQ22
                    refine OEndsH.st st22 ?_
                    replace N0 := Fr.app N0 Nq22
                    have ne_b1_t22 : b1 ≠ t22 := Nat.ne_of_lt (Nat.lt_of_lt_of_le A1.lt szq22)
                    have ne_b2_t22 : b2 ≠ t22 := Nat.ne_of_lt (Nat.lt_of_lt_of_le V_b2_20.lt szq22)
                    have ne_tc_t22 : tc ≠ t22 := Nat.ne_of_lt (Nat.lt_of_lt_of_le V_tc.lt szq22)
                    have ge_t22 : Z.heap.size ≤ t22 := Nat.le_trans O0.1 szq22
                    have S_t22 : Safe Z EL vm0 h20 t22 := Safe.new szq22
                    have sz_t22 : h0.size ≤ t22 := Nat.le_trans K0.1 szq22
                    replace V_tc := V_tc.keep Kq22 (ninS ne_tc_b1 nin0)
                    replace A1 := A1.keep Kq22
                    replace V_b2_20 := V_b2_20.keep Kq22 (ninS (Ne.symm ne_b1_b2) nin0)
                    have S_b1' : Safe Z EL vm0 h22 b1 := Safe.keep Kq22 (sfS S_b1 sf0) A0.1 S_b1
                    have S_b2' : Safe Z EL vm0 h22 b2 := Safe.keep Kq22 (sfS S_b1 sf0) A0.1 S_b2
                    have S_t22' : Safe Z EL vm0 h22 t22 := Safe.keep Kq22 (sfS S_b1 sf0) A0.1 S_t22
                    have A' : CHr Z EL s.vm s.heap vm0 h22 := A0.trans (CHr.keep Kq22 (sfS S_b1 sf0) A0.1)
                    replace S_b1 := S_b1'
                    replace S_b2 := S_b2'
                    replace S_t22 := S_t22'
                    replace A0 := A'
                    replace hk0 := Nat.le_trans hk0 Kq22.1
                    replace O0 : Ext Z.heap h22 := ext_keep O0 Kq22 (allS ge_b1 all0)
                    replace K0 : Keep h0 h22 [] := K0.trans Kq22 (allS (Or.inr sz_b1) all0)
                    replace V22 : Arv Z h22 t22 kb22 .byte (Int32.ofNat 9) [(.int (x0).toInt8.toInt32), (.int (x1).toInt8.toInt32), (.int (x2).toInt8.toInt32), (.int (x3).toInt8.toInt32), (.int (x4).toInt8.toInt32), (.int (x5).toInt8.toInt32), (.int (x6).toInt8.toInt32), (.int (x7).toInt8.toInt32), (.int (x8).toInt8.toInt32)] (.int 0) := V22
                    clear V_b2_20
                    exact OEndsH.ret X22 hx hZ hEL e22 hS0 hk0 A0 hret hlk rfl (Or.inr (Or.inr (Or.inr (Or.inr ⟨rfl, rfl, rfl⟩)))) (hb hby d_4_442) (by decide) (by decide) ⟨b1, 9, rfl, N0, K0, (by decide), (is9 hln q0 q1 q2 q3 q4 q5 q6 q7 q8), A1, Fc22, t22, _, Fv22, V22⟩
  · refine OEndsH.st (S' := T0.setTop (mkF m 4 #[vr tc, vi ln] [])) (fun _ k => ?_) ?_
    · refine XS.ifNo X0.here hx rfl (hb hby d_4_1) rfl ((if0 _ _).trans (flt q0).2.2.1) ?_
      exact k
    obtain ⟨T1, h1, X1, e1, E1, A1, D1, U1, st1⟩ := newO X0 hx hZ hown (wq hw 8 rfl) (wq hw 9 rfl) (wq hw 10 rfl) e0 (g := (mkF m 4 #[vr tc, vi ln] [])) rfl (hb hby d_4_4) (by decide) (by decide)
    obtain ⟨b1, g1⟩ : ∃ z, z = h0.size := ⟨_, rfl⟩
    rw [← g1] at A1 D1 U1 st1
    refine OEndsH.st st1 ?_
    have ne_tc_b1 : tc ≠ b1 := Nat.ne_of_lt (Nat.lt_of_lt_of_le V_tc.lt (Nat.le_of_eq g1.symm))
    have ge_b1 : Z.heap.size ≤ b1 := Nat.le_trans O0.1 (Nat.le_of_eq g1.symm)
    have sz_b1 : h0.size ≤ b1 := Nat.le_trans K0.1 (Nat.le_of_eq g1.symm)
    have S_b1 : Safe Z EL vm0 h0 b1 := Safe.new (Nat.le_of_eq g1.symm)
    replace V_tc := V_tc.ext E1
    have S_b1' : Safe Z EL vm0 h1 b1 := Safe.ext E1 A0.1 S_b1
    have A' : CHr Z EL s.vm s.heap vm0 h1 := A0.trans (CHr.ext E1 A0.1)
    replace S_b1 := S_b1'
    replace A0 := A'
    replace hk0 := Nat.le_trans hk0 E1.1
    replace O0 : Ext Z.heap h1 := ext_trans O0 E1
    replace K0 : Keep h0 h1 [] := K0.ext E1
    have F_value_b1 : Fld Z h1 b1 "java/lang/String" "value" "[B" .null := D1 (Or.inr (wq hw 23 rfl)) (ty := (.array .byte)) (by decide)
    have F_coder_b1 : Fld Z h1 b1 "java/lang/String" "coder" "B" (.int 0) := D1 (Or.inr (wq hw 24 rfl)) (ty := .byte) (by decide)
    refine OEndsH.st (S' := T1.setTop (mkF m 9 #[vr tc, vi ln] [(.int 0), (.ref b1), (.ref b1)])) (fun _ k => ?_) ?_
    · refine XS.dup X1.here hx rfl (hb hby d_4_7) rfl rfl ?_
      refine XS.iconst X1.here hx rfl (hb hby d_4_8) ?_
      exact k
    obtain ⟨T2, h2, k2, X2, e2, E2, A2, st2⟩ := newP X1 hx hZ (wq hw 0 rfl) e1 (g := (mkF m 9 #[vr tc, vi ln] [(.int 0), (.ref b1), (.ref b1)])) rfl (hb hby d_4_9) rfl (by decide) (cap := 0) (by decide) (by decide) (by decide) (by decide)
    obtain ⟨b2, g2⟩ : ∃ z, z = h1.size := ⟨_, rfl⟩
    rw [← g2] at A2 st2
    refine OEndsH.st st2 ?_
    have ne_b1_b2 : b1 ≠ b2 := Nat.ne_of_lt (Nat.lt_of_lt_of_le A1.lt (Nat.le_of_eq g2.symm))
    have ne_tc_b2 : tc ≠ b2 := Nat.ne_of_lt (Nat.lt_of_lt_of_le V_tc.lt (Nat.le_of_eq g2.symm))
    have ge_b2 : Z.heap.size ≤ b2 := Nat.le_trans O0.1 (Nat.le_of_eq g2.symm)
    have sz_b2 : h0.size ≤ b2 := Nat.le_trans K0.1 (Nat.le_of_eq g2.symm)
    have S_b2 : Safe Z EL vm0 h1 b2 := Safe.new (Nat.le_of_eq g2.symm)
    replace V_tc := V_tc.ext E2
    replace A1 := A1.ext E2
    replace F_value_b1 := F_value_b1.ext E2
    replace F_coder_b1 := F_coder_b1.ext E2
    have S_b1' : Safe Z EL vm0 h2 b1 := Safe.ext E2 A0.1 S_b1
    have S_b2' : Safe Z EL vm0 h2 b2 := Safe.ext E2 A0.1 S_b2
    have A' : CHr Z EL s.vm s.heap vm0 h2 := A0.trans (CHr.ext E2 A0.1)
    replace S_b1 := S_b1'
    replace S_b2 := S_b2'
    replace A0 := A'
    replace hk0 := Nat.le_trans hk0 E2.1
    replace O0 : Ext Z.heap h2 := ext_trans O0 E2
    replace K0 : Keep h0 h2 [] := K0.ext E2
    have V_b2 : Arv Z h2 b2 k2 .char (0 : Int32) [] (.int 0) := Arv.new A2 (by decide)
    obtain ⟨_, T3, h3, L3, vm3, k13, X3, e3, hQ3, hS3, hk3, hZ3, hown3, Aq3, st3⟩ := specH X2 hx hZ rfl hown (wq hw 11 rfl) (wq hw 12 rfl) (wq hw 13 rfl) (by decide) (kc := 4) (ks := 8) (ConH.sb (W := 1) (rm_strE1 l hD b1 b2 k2 O0 A1 F_value_b1 F_coder_b1 ge_b1 V_b2) hZ (wq hw 13 rfl) (wq hw 10 rfl) (by decide) (by decide) hEL A0.1 (allS ⟨A1.lt, S_b1⟩ all0)) e2 hS0 hk0 (a := b1) (g := (mkF m 11 #[vr tc, vi ln] [(.ref b2), (.ref b1), (.ref b1)])) rfl (by rw [hml]; rfl) (argsL := [(.ref b2)]) (rest := [(.ref b1)]) (lenOf pd_2 rfl) rfl (by show 2 * 0 + _ ≤ _; exact Nat.le_of_eq rfl) (hb hby d_4_11) (by decide) (by decide)
    obtain ⟨rfl, Nq3, Kq3, Eq3, Fc3, tq3, kq3, Fv3, V3⟩ := hQ3
    replace S_b1 : Safe Z EL vm3 h3 b1 := Aq3.safe A1.lt S_b1
    replace S_b2 : Safe Z EL vm3 h3 b2 := Aq3.safe V_b2.lt S_b2
    replace A0 : CHr Z EL s.vm s.heap vm3 h3 := A0.trans Aq3
    refine OEndsH.st st3 ?_
    replace N0 := Fr.app N0 Nq3
    replace V_tc := V_tc.keep Kq3 (ninS ne_tc_b1 nin0)
    replace A1 := A1.keep Kq3
    replace V_b2 := V_b2.keep Kq3 (ninS (Ne.symm ne_b1_b2) nin0)
    replace O0 : Ext Z.heap h3 := ext_keep O0 Kq3 (allS ge_b1 all0)
    replace K0 : Keep h0 h3 [] := K0.trans Kq3 (allS (Or.inr sz_b1) all0)
    exact OEndsH.ret X3 hx hZ3 hEL e3 hS3 hk3 A0 hret hlk rfl (Or.inr (Or.inr (Or.inr (Or.inr ⟨rfl, rfl, rfl⟩)))) (hb hby d_4_14) (by decide) (by decide) ⟨b1, 0, rfl, N0, K0, (by decide), (is0 hln.1 q0), A1, Fc3, tq3, _, Fv3, V3⟩
-- jdk/internal/util/ArraysSupport.mismatch:([BI[BII)I
def Q_mism (Z : State) (t : Addr) (tp : Addr) (k kp : ClassId) (z : Int32) (y0 y1 y2 y3 y4 : Int32) (rest : List Value) (h0 : Heap) (v : Option Value) (h : Heap) (L : List Loc) : Prop := ∃ r : Int32, v = some (.int r) ∧ ((r < 0 ∧ PreB y0 y1 y2 y3 y4) ∨ (¬ r < 0 ∧ ¬ PreB y0 y1 y2 y3 y4)) ∧ Fr Z.heap.size L ∧ h = h0
theorem ef_mism (m : MethodId) (t : Addr) (tp : Addr) : entryFrame m #[(.ref t), (.int 0), (.ref tp), (.int 0), (.int 5)] 8 = mkF m 0 #[vr t, vi 0, vr tp, vi 0, vi 5, .unset, .unset, .unset] [] := by first | (simp [entryFrame, mkF, argsToLocals, Value.category, vi, vj, vr]; done) | rfl
theorem pn_2 : plainName "jdk/internal/util/ArraysSupport" = true := by first | (simp [plainName, overriddenIn]; done) | decide +kernel
theorem d_jdk_48_14_0 : decode jdk_48_method_14_code 0 = .ok (.iconst 0, 1) := by decide +kernel
theorem d_jdk_48_14_1 : decode jdk_48_method_14_code 1 = .ok (.istore 5, 2) := by decide +kernel
theorem d_jdk_48_14_3 : decode jdk_48_method_14_code 3 = .ok (.iload 4, 2) := by decide +kernel
theorem d_jdk_48_14_5 : decode jdk_48_method_14_code 5 = .ok (.bipush 7, 2) := by decide +kernel
theorem d_jdk_48_14_7 : decode jdk_48_method_14_code 7 = .ok (.if_icmp .le 63, 3) := by decide +kernel
theorem d_jdk_48_14_70 : decode jdk_48_method_14_code 70 = .ok (.iload 5, 2) := by decide +kernel
theorem d_jdk_48_14_72 : decode jdk_48_method_14_code 72 = .ok (.iload 4, 2) := by decide +kernel
theorem d_jdk_48_14_74 : decode jdk_48_method_14_code 74 = .ok (.if_icmp .ge 27, 3) := by decide +kernel
theorem d_jdk_48_14_77 : decode jdk_48_method_14_code 77 = .ok (.aload_n 0, 1) := by decide +kernel
theorem d_jdk_48_14_78 : decode jdk_48_method_14_code 78 = .ok (.iload_n 1, 1) := by decide +kernel
theorem d_jdk_48_14_79 : decode jdk_48_method_14_code 79 = .ok (.iload 5, 2) := by decide +kernel
theorem d_jdk_48_14_81 : decode jdk_48_method_14_code 81 = .ok (.iadd, 1) := by decide +kernel
theorem d_jdk_48_14_82 : decode jdk_48_method_14_code 82 = .ok (.baload, 1) := by decide +kernel
theorem d_jdk_48_14_83 : decode jdk_48_method_14_code 83 = .ok (.aload_n 2, 1) := by decide +kernel
theorem d_jdk_48_14_84 : decode jdk_48_method_14_code 84 = .ok (.iload_n 3, 1) := by decide +kernel
theorem d_jdk_48_14_85 : decode jdk_48_method_14_code 85 = .ok (.iload 5, 2) := by decide +kernel
theorem d_jdk_48_14_87 : decode jdk_48_method_14_code 87 = .ok (.iadd, 1) := by decide +kernel
theorem d_jdk_48_14_88 : decode jdk_48_method_14_code 88 = .ok (.baload, 1) := by decide +kernel
theorem d_jdk_48_14_89 : decode jdk_48_method_14_code 89 = .ok (.if_icmp .eq 6, 3) := by decide +kernel
theorem d_jdk_48_14_95 : decode jdk_48_method_14_code 95 = .ok (.iinc 5 1, 3) := by decide +kernel
theorem d_jdk_48_14_98 : decode jdk_48_method_14_code 98 = .ok (.goto (-28), 3) := by decide +kernel
theorem d_jdk_48_14_101 : decode jdk_48_method_14_code 101 = .ok (.iconst (-1), 1) := by decide +kernel
theorem d_jdk_48_14_102 : decode jdk_48_method_14_code 102 = .ok (.ireturn, 1) := by decide +kernel
theorem d_jdk_48_14_92 : decode jdk_48_method_14_code 92 = .ok (.iload 5, 2) := by decide +kernel
theorem d_jdk_48_14_94 : decode jdk_48_method_14_code 94 = .ok (.ireturn, 1) := by decide +kernel
set_option maxRecDepth 65536 in
set_option maxHeartbeats 40000000 in
theorem rm_mism (l : Launch) {Z : State} {a0 : Array Value} (hD : Wd Z a0) (t : Addr) (tp : Addr) (k kp : ClassId) (z : Int32) (y0 y1 y2 y3 y4 : Int32) (rest : List Value) {h0 : Heap} (O0 : Ext Z.heap h0) (V_t : Arv Z h0 t k .byte z ((.int y0) :: (.int y1) :: (.int y2) :: (.int y3) :: (.int y4) :: rest) (.int 0)) (V_tp : Arv Z h0 tp kp .byte (5 : Int32) [(.int 117), (.int 115), (.int 101), (.int 114), (.int 58)] (.int 0)) (hz : ¬ z < 5) :
    Con l Z (⟨"jdk/internal/util/ArraysSupport", "mismatch", "([BI[BII)I"⟩ : MethodName) jdk_48_method_14_code 8 (some .int) [] ({ frames := 0, cells := 0, slots := 0, locals := 0 } : Room) #[(.ref t), (.int 0), (.ref tp), (.int 0), (.int 5)] h0 (Q_mism Z t tp k kp z y0 y1 y2 y3 y4 rest h0) := by
  refine Con.walk (plainFor_of_name pn_2) ?_
  intro p e s m below meth c T0 X0 hx hZ hby hml hown hnm hret hlk e0
  obtain ⟨hw, ⟨cz, S_CS, hcz⟩, ⟨sf, S_SF, hsf⟩⟩ := id hD
  have N0 := Fr.nil Z.heap.size
  refine OEnds.cast (ef_mism m t tp) ?_
  refine OEnds.st (S' := T0.setTop (mkF m 70 #[vr t, vi 0, vr tp, vi 0, vi 5, vi 0, .unset, .unset] [])) (fun _ k => ?_) ?_
  · refine XS.iconst X0.here hx rfl (hb hby d_jdk_48_14_0) ?_
    refine XS.istore X0.here hx rfl (hb hby d_jdk_48_14_1) rfl (l' := #[vr t, vi 0, vr tp, vi 0, vi 5, vi 0, .unset, .unset]) rfl ?_
    refine XS.iload X0.here hx rfl (hb hby d_jdk_48_14_3) rfl ?_
    refine XS.bipush X0.here hx rfl (hb hby d_jdk_48_14_5) ?_
    show Steps p.tables e below (T0.setTop (mkF m 7 #[vr t, vi 0, vr tp, vi 0, vi 5, vi 0, .unset, .unset] [(.int 7), (.int 5)])) _
    refine XS.icmpYes X0.here hx rfl (pc0 := 7) (pc' := 70) rfl (hb hby d_jdk_48_14_7) rfl (flt (by decide)).2.2.2 (by decide) (by decide) ?_
    exact k
  refine OEnds.st (S' := T0.setTop (mkF m 82 #[vr t, vi 0, vr tp, vi 0, vi 5, vi 0, .unset, .unset] [(.int 0), (.ref t)])) (fun _ k => ?_) ?_
  · refine XS.iload X0.here hx rfl (hb hby d_jdk_48_14_70) rfl ?_
    refine XS.iload X0.here hx rfl (hb hby d_jdk_48_14_72) rfl ?_
    refine XS.icmpNo X0.here hx rfl (hb hby d_jdk_48_14_74) rfl (tlt (by decide)).2.1 ?_
    refine XS.aloadN X0.here hx rfl (hb hby d_jdk_48_14_77) rfl rfl ?_
    show Steps p.tables e below (T0.setTop (mkF m 78 #[vr t, vi 0, vr tp, vi 0, vi 5, vi 0, .unset, .unset] [(.ref t)])) _
    refine XS.iloadN X0.here hx rfl (hb hby d_jdk_48_14_78) rfl ?_
    refine XS.iload X0.here hx rfl (hb hby d_jdk_48_14_79) rfl ?_
    refine XS.iadd X0.here hx rfl (hb hby d_jdk_48_14_81) rfl ?_
    exact k
  obtain ⟨cl_t_1, Ar_t_1, q_t_1, S_t_1, N_t_1, H_t_1, G_t_1⟩ := id V_t
  refine OEnds.st (S' := T0.setTop (mkF m 83 #[vr t, vi 0, vr tp, vi 0, vi 5, vi 0, .unset, .unset] [(.int y0)])) (X0.baloadBytes hx (j := (0 : Int32)) (v := (.int y0)) (by rw [e0]; exact Ar_t_1.1) (State.isArrayOf_alike hZ.alike Ar_t_1.2.1) Ar_t_1.2.2 (inb_of S_t_1 (in5 hz ⟨by decide, by decide⟩)) (H_t_1.at (inb_of S_t_1 (in5 hz ⟨by decide, by decide⟩)) rfl) (g := (mkF m 82 #[vr t, vi 0, vr tp, vi 0, vi 5, vi 0, .unset, .unset] [(.int 0), (.ref t)])) rfl rfl (hb hby d_jdk_48_14_82)) ?_
  refine OEnds.st (S' := T0.setTop (mkF m 88 #[vr t, vi 0, vr tp, vi 0, vi 5, vi 0, .unset, .unset] [(.int 0), (.ref tp), (.int y0)])) (fun _ k => ?_) ?_
  · refine XS.aloadN X0.here hx rfl (hb hby d_jdk_48_14_83) rfl rfl ?_
    refine XS.iloadN X0.here hx rfl (hb hby d_jdk_48_14_84) rfl ?_
    refine XS.iload X0.here hx rfl (hb hby d_jdk_48_14_85) rfl ?_
    refine XS.iadd X0.here hx rfl (hb hby d_jdk_48_14_87) rfl ?_
    exact k
  obtain ⟨cl_tp_2, Ar_tp_2, q_tp_2, S_tp_2, N_tp_2, H_tp_2, G_tp_2⟩ := id V_tp
  refine OEnds.st (S' := T0.setTop (mkF m 89 #[vr t, vi 0, vr tp, vi 0, vi 5, vi 0, .unset, .unset] [(.int 117), (.int y0)])) (X0.baloadBytes hx (j := (0 : Int32)) (v := (.int 117)) (by rw [e0]; exact Ar_tp_2.1) (State.isArrayOf_alike hZ.alike Ar_tp_2.2.1) Ar_tp_2.2.2 (inb_of S_tp_2 ⟨by decide, by decide⟩) (H_tp_2.at (inb_of S_tp_2 ⟨by decide, by decide⟩) rfl) (g := (mkF m 88 #[vr t, vi 0, vr tp, vi 0, vi 5, vi 0, .unset, .unset] [(.int 0), (.ref tp), (.int y0)])) rfl rfl (hb hby d_jdk_48_14_88)) ?_
  rcases Classical.em (y0 = (117 : Int32)) with m0 | m0
  · refine OEnds.st (S' := T0.setTop (mkF m 70 #[vr t, vi 0, vr tp, vi 0, vi 5, vi 1, .unset, .unset] [])) (fun _ k => ?_) ?_
    · refine XS.icmpYes X0.here hx rfl (pc0 := 89) (pc' := 95) rfl (hb hby d_jdk_48_14_89) rfl (teq m0).1 (by decide) (by decide) ?_
      refine XS.iinc X0.here hx rfl (hb hby d_jdk_48_14_95) rfl (l' := #[vr t, vi 0, vr tp, vi 0, vi 5, vi 1, .unset, .unset]) rfl ?_
      refine XS.goto X0.here hx rfl (pc0 := 98) (pc' := 70) rfl (hb hby d_jdk_48_14_98) (by decide) (by decide) ?_
      exact k
    refine OEnds.st (S' := T0.setTop (mkF m 82 #[vr t, vi 0, vr tp, vi 0, vi 5, vi 1, .unset, .unset] [(.int 1), (.ref t)])) (fun _ k => ?_) ?_
    · refine XS.iload X0.here hx rfl (hb hby d_jdk_48_14_70) rfl ?_
      refine XS.iload X0.here hx rfl (hb hby d_jdk_48_14_72) rfl ?_
      refine XS.icmpNo X0.here hx rfl (hb hby d_jdk_48_14_74) rfl (tlt (by decide)).2.1 ?_
      refine XS.aloadN X0.here hx rfl (hb hby d_jdk_48_14_77) rfl rfl ?_
      show Steps p.tables e below (T0.setTop (mkF m 78 #[vr t, vi 0, vr tp, vi 0, vi 5, vi 1, .unset, .unset] [(.ref t)])) _
      refine XS.iloadN X0.here hx rfl (hb hby d_jdk_48_14_78) rfl ?_
      refine XS.iload X0.here hx rfl (hb hby d_jdk_48_14_79) rfl ?_
      refine XS.iadd X0.here hx rfl (hb hby d_jdk_48_14_81) rfl ?_
      exact k
    obtain ⟨cl_t_3, Ar_t_3, q_t_3, S_t_3, N_t_3, H_t_3, G_t_3⟩ := id V_t
    refine OEnds.st (S' := T0.setTop (mkF m 83 #[vr t, vi 0, vr tp, vi 0, vi 5, vi 1, .unset, .unset] [(.int y1)])) (X0.baloadBytes hx (j := (1 : Int32)) (v := (.int y1)) (by rw [e0]; exact Ar_t_3.1) (State.isArrayOf_alike hZ.alike Ar_t_3.2.1) Ar_t_3.2.2 (inb_of S_t_3 (in5 hz ⟨by decide, by decide⟩)) (H_t_3.at (inb_of S_t_3 (in5 hz ⟨by decide, by decide⟩)) rfl) (g := (mkF m 82 #[vr t, vi 0, vr tp, vi 0, vi 5, vi 1, .unset, .unset] [(.int 1), (.ref t)])) rfl rfl (hb hby d_jdk_48_14_82)) ?_
    refine OEnds.st (S' := T0.setTop (mkF m 88 #[vr t, vi 0, vr tp, vi 0, vi 5, vi 1, .unset, .unset] [(.int 1), (.ref tp), (.int y1)])) (fun _ k => ?_) ?_
    · refine XS.aloadN X0.here hx rfl (hb hby d_jdk_48_14_83) rfl rfl ?_
      refine XS.iloadN X0.here hx rfl (hb hby d_jdk_48_14_84) rfl ?_
      refine XS.iload X0.here hx rfl (hb hby d_jdk_48_14_85) rfl ?_
      refine XS.iadd X0.here hx rfl (hb hby d_jdk_48_14_87) rfl ?_
      exact k
    obtain ⟨cl_tp_4, Ar_tp_4, q_tp_4, S_tp_4, N_tp_4, H_tp_4, G_tp_4⟩ := id V_tp
    refine OEnds.st (S' := T0.setTop (mkF m 89 #[vr t, vi 0, vr tp, vi 0, vi 5, vi 1, .unset, .unset] [(.int 115), (.int y1)])) (X0.baloadBytes hx (j := (1 : Int32)) (v := (.int 115)) (by rw [e0]; exact Ar_tp_4.1) (State.isArrayOf_alike hZ.alike Ar_tp_4.2.1) Ar_tp_4.2.2 (inb_of S_tp_4 ⟨by decide, by decide⟩) (H_tp_4.at (inb_of S_tp_4 ⟨by decide, by decide⟩) rfl) (g := (mkF m 88 #[vr t, vi 0, vr tp, vi 0, vi 5, vi 1, .unset, .unset] [(.int 1), (.ref tp), (.int y1)])) rfl rfl (hb hby d_jdk_48_14_88)) ?_
    rcases Classical.em (y1 = (115 : Int32)) with m1 | m1
    · refine OEnds.st (S' := T0.setTop (mkF m 70 #[vr t, vi 0, vr tp, vi 0, vi 5, vi 2, .unset, .unset] [])) (fun _ k => ?_) ?_
      · refine XS.icmpYes X0.here hx rfl (pc0 := 89) (pc' := 95) rfl (hb hby d_jdk_48_14_89) rfl (teq m1).1 (by decide) (by decide) ?_
        refine XS.iinc X0.here hx rfl (hb hby d_jdk_48_14_95) rfl (l' := #[vr t, vi 0, vr tp, vi 0, vi 5, vi 2, .unset, .unset]) rfl ?_
        refine XS.goto X0.here hx rfl (pc0 := 98) (pc' := 70) rfl (hb hby d_jdk_48_14_98) (by decide) (by decide) ?_
        exact k
      refine OEnds.st (S' := T0.setTop (mkF m 82 #[vr t, vi 0, vr tp, vi 0, vi 5, vi 2, .unset, .unset] [(.int 2), (.ref t)])) (fun _ k => ?_) ?_
      · refine XS.iload X0.here hx rfl (hb hby d_jdk_48_14_70) rfl ?_
        refine XS.iload X0.here hx rfl (hb hby d_jdk_48_14_72) rfl ?_
        refine XS.icmpNo X0.here hx rfl (hb hby d_jdk_48_14_74) rfl (tlt (by decide)).2.1 ?_
        refine XS.aloadN X0.here hx rfl (hb hby d_jdk_48_14_77) rfl rfl ?_
        show Steps p.tables e below (T0.setTop (mkF m 78 #[vr t, vi 0, vr tp, vi 0, vi 5, vi 2, .unset, .unset] [(.ref t)])) _
        refine XS.iloadN X0.here hx rfl (hb hby d_jdk_48_14_78) rfl ?_
        refine XS.iload X0.here hx rfl (hb hby d_jdk_48_14_79) rfl ?_
        refine XS.iadd X0.here hx rfl (hb hby d_jdk_48_14_81) rfl ?_
        exact k
      obtain ⟨cl_t_5, Ar_t_5, q_t_5, S_t_5, N_t_5, H_t_5, G_t_5⟩ := id V_t
      refine OEnds.st (S' := T0.setTop (mkF m 83 #[vr t, vi 0, vr tp, vi 0, vi 5, vi 2, .unset, .unset] [(.int y2)])) (X0.baloadBytes hx (j := (2 : Int32)) (v := (.int y2)) (by rw [e0]; exact Ar_t_5.1) (State.isArrayOf_alike hZ.alike Ar_t_5.2.1) Ar_t_5.2.2 (inb_of S_t_5 (in5 hz ⟨by decide, by decide⟩)) (H_t_5.at (inb_of S_t_5 (in5 hz ⟨by decide, by decide⟩)) rfl) (g := (mkF m 82 #[vr t, vi 0, vr tp, vi 0, vi 5, vi 2, .unset, .unset] [(.int 2), (.ref t)])) rfl rfl (hb hby d_jdk_48_14_82)) ?_
      refine OEnds.st (S' := T0.setTop (mkF m 88 #[vr t, vi 0, vr tp, vi 0, vi 5, vi 2, .unset, .unset] [(.int 2), (.ref tp), (.int y2)])) (fun _ k => ?_) ?_
      · refine XS.aloadN X0.here hx rfl (hb hby d_jdk_48_14_83) rfl rfl ?_
        refine XS.iloadN X0.here hx rfl (hb hby d_jdk_48_14_84) rfl ?_
        refine XS.iload X0.here hx rfl (hb hby d_jdk_48_14_85) rfl ?_
        refine XS.iadd X0.here hx rfl (hb hby d_jdk_48_14_87) rfl ?_
        exact k
      obtain ⟨cl_tp_6, Ar_tp_6, q_tp_6, S_tp_6, N_tp_6, H_tp_6, G_tp_6⟩ := id V_tp
      refine OEnds.st (S' := T0.setTop (mkF m 89 #[vr t, vi 0, vr tp, vi 0, vi 5, vi 2, .unset, .unset] [(.int 101), (.int y2)])) (X0.baloadBytes hx (j := (2 : Int32)) (v := (.int 101)) (by rw [e0]; exact Ar_tp_6.1) (State.isArrayOf_alike hZ.alike Ar_tp_6.2.1) Ar_tp_6.2.2 (inb_of S_tp_6 ⟨by decide, by decide⟩) (H_tp_6.at (inb_of S_tp_6 ⟨by decide, by decide⟩) rfl) (g := (mkF m 88 #[vr t, vi 0, vr tp, vi 0, vi 5, vi 2, .unset, .unset] [(.int 2), (.ref tp), (.int y2)])) rfl rfl (hb hby d_jdk_48_14_88)) ?_
      rcases Classical.em (y2 = (101 : Int32)) with m2 | m2
      · refine OEnds.st (S' := T0.setTop (mkF m 70 #[vr t, vi 0, vr tp, vi 0, vi 5, vi 3, .unset, .unset] [])) (fun _ k => ?_) ?_
        · refine XS.icmpYes X0.here hx rfl (pc0 := 89) (pc' := 95) rfl (hb hby d_jdk_48_14_89) rfl (teq m2).1 (by decide) (by decide) ?_
          refine XS.iinc X0.here hx rfl (hb hby d_jdk_48_14_95) rfl (l' := #[vr t, vi 0, vr tp, vi 0, vi 5, vi 3, .unset, .unset]) rfl ?_
          refine XS.goto X0.here hx rfl (pc0 := 98) (pc' := 70) rfl (hb hby d_jdk_48_14_98) (by decide) (by decide) ?_
          exact k
        refine OEnds.st (S' := T0.setTop (mkF m 82 #[vr t, vi 0, vr tp, vi 0, vi 5, vi 3, .unset, .unset] [(.int 3), (.ref t)])) (fun _ k => ?_) ?_
        · refine XS.iload X0.here hx rfl (hb hby d_jdk_48_14_70) rfl ?_
          refine XS.iload X0.here hx rfl (hb hby d_jdk_48_14_72) rfl ?_
          refine XS.icmpNo X0.here hx rfl (hb hby d_jdk_48_14_74) rfl (tlt (by decide)).2.1 ?_
          refine XS.aloadN X0.here hx rfl (hb hby d_jdk_48_14_77) rfl rfl ?_
          show Steps p.tables e below (T0.setTop (mkF m 78 #[vr t, vi 0, vr tp, vi 0, vi 5, vi 3, .unset, .unset] [(.ref t)])) _
          refine XS.iloadN X0.here hx rfl (hb hby d_jdk_48_14_78) rfl ?_
          refine XS.iload X0.here hx rfl (hb hby d_jdk_48_14_79) rfl ?_
          refine XS.iadd X0.here hx rfl (hb hby d_jdk_48_14_81) rfl ?_
          exact k
        obtain ⟨cl_t_7, Ar_t_7, q_t_7, S_t_7, N_t_7, H_t_7, G_t_7⟩ := id V_t
        refine OEnds.st (S' := T0.setTop (mkF m 83 #[vr t, vi 0, vr tp, vi 0, vi 5, vi 3, .unset, .unset] [(.int y3)])) (X0.baloadBytes hx (j := (3 : Int32)) (v := (.int y3)) (by rw [e0]; exact Ar_t_7.1) (State.isArrayOf_alike hZ.alike Ar_t_7.2.1) Ar_t_7.2.2 (inb_of S_t_7 (in5 hz ⟨by decide, by decide⟩)) (H_t_7.at (inb_of S_t_7 (in5 hz ⟨by decide, by decide⟩)) rfl) (g := (mkF m 82 #[vr t, vi 0, vr tp, vi 0, vi 5, vi 3, .unset, .unset] [(.int 3), (.ref t)])) rfl rfl (hb hby d_jdk_48_14_82)) ?_
        refine OEnds.st (S' := T0.setTop (mkF m 88 #[vr t, vi 0, vr tp, vi 0, vi 5, vi 3, .unset, .unset] [(.int 3), (.ref tp), (.int y3)])) (fun _ k => ?_) ?_
        · refine XS.aloadN X0.here hx rfl (hb hby d_jdk_48_14_83) rfl rfl ?_
          refine XS.iloadN X0.here hx rfl (hb hby d_jdk_48_14_84) rfl ?_
          refine XS.iload X0.here hx rfl (hb hby d_jdk_48_14_85) rfl ?_
          refine XS.iadd X0.here hx rfl (hb hby d_jdk_48_14_87) rfl ?_
          exact k
        obtain ⟨cl_tp_8, Ar_tp_8, q_tp_8, S_tp_8, N_tp_8, H_tp_8, G_tp_8⟩ := id V_tp
        refine OEnds.st (S' := T0.setTop (mkF m 89 #[vr t, vi 0, vr tp, vi 0, vi 5, vi 3, .unset, .unset] [(.int 114), (.int y3)])) (X0.baloadBytes hx (j := (3 : Int32)) (v := (.int 114)) (by rw [e0]; exact Ar_tp_8.1) (State.isArrayOf_alike hZ.alike Ar_tp_8.2.1) Ar_tp_8.2.2 (inb_of S_tp_8 ⟨by decide, by decide⟩) (H_tp_8.at (inb_of S_tp_8 ⟨by decide, by decide⟩) rfl) (g := (mkF m 88 #[vr t, vi 0, vr tp, vi 0, vi 5, vi 3, .unset, .unset] [(.int 3), (.ref tp), (.int y3)])) rfl rfl (hb hby d_jdk_48_14_88)) ?_
        rcases Classical.em (y3 = (114 : Int32)) with m3 | m3
        · refine OEnds.st (S' := T0.setTop (mkF m 70 #[vr t, vi 0, vr tp, vi 0, vi 5, vi 4, .unset, .unset] [])) (fun _ k => ?_) ?_
          · refine XS.icmpYes X0.here hx rfl (pc0 := 89) (pc' := 95) rfl (hb hby d_jdk_48_14_89) rfl (teq m3).1 (by decide) (by decide) ?_
            refine XS.iinc X0.here hx rfl (hb hby d_jdk_48_14_95) rfl (l' := #[vr t, vi 0, vr tp, vi 0, vi 5, vi 4, .unset, .unset]) rfl ?_
            refine XS.goto X0.here hx rfl (pc0 := 98) (pc' := 70) rfl (hb hby d_jdk_48_14_98) (by decide) (by decide) ?_
            exact k
          refine OEnds.st (S' := T0.setTop (mkF m 82 #[vr t, vi 0, vr tp, vi 0, vi 5, vi 4, .unset, .unset] [(.int 4), (.ref t)])) (fun _ k => ?_) ?_
          · refine XS.iload X0.here hx rfl (hb hby d_jdk_48_14_70) rfl ?_
            refine XS.iload X0.here hx rfl (hb hby d_jdk_48_14_72) rfl ?_
            refine XS.icmpNo X0.here hx rfl (hb hby d_jdk_48_14_74) rfl (tlt (by decide)).2.1 ?_
            refine XS.aloadN X0.here hx rfl (hb hby d_jdk_48_14_77) rfl rfl ?_
            show Steps p.tables e below (T0.setTop (mkF m 78 #[vr t, vi 0, vr tp, vi 0, vi 5, vi 4, .unset, .unset] [(.ref t)])) _
            refine XS.iloadN X0.here hx rfl (hb hby d_jdk_48_14_78) rfl ?_
            refine XS.iload X0.here hx rfl (hb hby d_jdk_48_14_79) rfl ?_
            refine XS.iadd X0.here hx rfl (hb hby d_jdk_48_14_81) rfl ?_
            exact k
          obtain ⟨cl_t_9, Ar_t_9, q_t_9, S_t_9, N_t_9, H_t_9, G_t_9⟩ := id V_t
          refine OEnds.st (S' := T0.setTop (mkF m 83 #[vr t, vi 0, vr tp, vi 0, vi 5, vi 4, .unset, .unset] [(.int y4)])) (X0.baloadBytes hx (j := (4 : Int32)) (v := (.int y4)) (by rw [e0]; exact Ar_t_9.1) (State.isArrayOf_alike hZ.alike Ar_t_9.2.1) Ar_t_9.2.2 (inb_of S_t_9 (in5 hz ⟨by decide, by decide⟩)) (H_t_9.at (inb_of S_t_9 (in5 hz ⟨by decide, by decide⟩)) rfl) (g := (mkF m 82 #[vr t, vi 0, vr tp, vi 0, vi 5, vi 4, .unset, .unset] [(.int 4), (.ref t)])) rfl rfl (hb hby d_jdk_48_14_82)) ?_
          refine OEnds.st (S' := T0.setTop (mkF m 88 #[vr t, vi 0, vr tp, vi 0, vi 5, vi 4, .unset, .unset] [(.int 4), (.ref tp), (.int y4)])) (fun _ k => ?_) ?_
          · refine XS.aloadN X0.here hx rfl (hb hby d_jdk_48_14_83) rfl rfl ?_
            refine XS.iloadN X0.here hx rfl (hb hby d_jdk_48_14_84) rfl ?_
            refine XS.iload X0.here hx rfl (hb hby d_jdk_48_14_85) rfl ?_
            refine XS.iadd X0.here hx rfl (hb hby d_jdk_48_14_87) rfl ?_
            exact k
          obtain ⟨cl_tp_10, Ar_tp_10, q_tp_10, S_tp_10, N_tp_10, H_tp_10, G_tp_10⟩ := id V_tp
          refine OEnds.st (S' := T0.setTop (mkF m 89 #[vr t, vi 0, vr tp, vi 0, vi 5, vi 4, .unset, .unset] [(.int 58), (.int y4)])) (X0.baloadBytes hx (j := (4 : Int32)) (v := (.int 58)) (by rw [e0]; exact Ar_tp_10.1) (State.isArrayOf_alike hZ.alike Ar_tp_10.2.1) Ar_tp_10.2.2 (inb_of S_tp_10 ⟨by decide, by decide⟩) (H_tp_10.at (inb_of S_tp_10 ⟨by decide, by decide⟩) rfl) (g := (mkF m 88 #[vr t, vi 0, vr tp, vi 0, vi 5, vi 4, .unset, .unset] [(.int 4), (.ref tp), (.int y4)])) rfl rfl (hb hby d_jdk_48_14_88)) ?_
          rcases Classical.em (y4 = (58 : Int32)) with m4 | m4
          · refine OEnds.st (S' := T0.setTop (mkF m 70 #[vr t, vi 0, vr tp, vi 0, vi 5, vi 5, .unset, .unset] [])) (fun _ k => ?_) ?_
            · refine XS.icmpYes X0.here hx rfl (pc0 := 89) (pc' := 95) rfl (hb hby d_jdk_48_14_89) rfl (teq m4).1 (by decide) (by decide) ?_
              refine XS.iinc X0.here hx rfl (hb hby d_jdk_48_14_95) rfl (l' := #[vr t, vi 0, vr tp, vi 0, vi 5, vi 5, .unset, .unset]) rfl ?_
              refine XS.goto X0.here hx rfl (pc0 := 98) (pc' := 70) rfl (hb hby d_jdk_48_14_98) (by decide) (by decide) ?_
              exact k
            refine OEnds.st (S' := T0.setTop (mkF m 102 #[vr t, vi 0, vr tp, vi 0, vi 5, vi 5, .unset, .unset] [(.int (-1))])) (fun _ k => ?_) ?_
            · refine XS.iload X0.here hx rfl (hb hby d_jdk_48_14_70) rfl ?_
              refine XS.iload X0.here hx rfl (hb hby d_jdk_48_14_72) rfl ?_
              refine XS.icmpYes X0.here hx rfl (pc0 := 74) (pc' := 101) rfl (hb hby d_jdk_48_14_74) rfl (flt (by decide)).2.1 (by decide) (by decide) ?_
              refine XS.iconst X0.here hx rfl (hb hby d_jdk_48_14_101) ?_
              exact k
            exact OEnds.ret X0 hx hret hlk rfl (Or.inl ⟨rfl, by simp, _, rfl⟩) (hb hby d_jdk_48_14_102) (by decide) (by decide) (by rw [e0]; exact ⟨_, rfl, Or.inl ⟨by decide, ⟨m0, m1, m2, m3, m4⟩⟩, N0, rfl⟩)
          · refine OEnds.st (S' := T0.setTop (mkF m 94 #[vr t, vi 0, vr tp, vi 0, vi 5, vi 4, .unset, .unset] [(.int 4)])) (fun _ k => ?_) ?_
            · refine XS.icmpNo X0.here hx rfl (hb hby d_jdk_48_14_89) rfl (feq m4).1 ?_
              refine XS.iload X0.here hx rfl (hb hby d_jdk_48_14_92) rfl ?_
              exact k
            exact OEnds.ret X0 hx hret hlk rfl (Or.inl ⟨rfl, by simp, _, rfl⟩) (hb hby d_jdk_48_14_94) (by decide) (by decide) (by rw [e0]; exact ⟨_, rfl, Or.inr ⟨by decide, fun q => m4 q.2.2.2.2⟩, N0, rfl⟩)
        · refine OEnds.st (S' := T0.setTop (mkF m 94 #[vr t, vi 0, vr tp, vi 0, vi 5, vi 3, .unset, .unset] [(.int 3)])) (fun _ k => ?_) ?_
          · refine XS.icmpNo X0.here hx rfl (hb hby d_jdk_48_14_89) rfl (feq m3).1 ?_
            refine XS.iload X0.here hx rfl (hb hby d_jdk_48_14_92) rfl ?_
            exact k
          exact OEnds.ret X0 hx hret hlk rfl (Or.inl ⟨rfl, by simp, _, rfl⟩) (hb hby d_jdk_48_14_94) (by decide) (by decide) (by rw [e0]; exact ⟨_, rfl, Or.inr ⟨by decide, fun q => m3 q.2.2.2.1⟩, N0, rfl⟩)
      · refine OEnds.st (S' := T0.setTop (mkF m 94 #[vr t, vi 0, vr tp, vi 0, vi 5, vi 2, .unset, .unset] [(.int 2)])) (fun _ k => ?_) ?_
        · refine XS.icmpNo X0.here hx rfl (hb hby d_jdk_48_14_89) rfl (feq m2).1 ?_
          refine XS.iload X0.here hx rfl (hb hby d_jdk_48_14_92) rfl ?_
          exact k
        exact OEnds.ret X0 hx hret hlk rfl (Or.inl ⟨rfl, by simp, _, rfl⟩) (hb hby d_jdk_48_14_94) (by decide) (by decide) (by rw [e0]; exact ⟨_, rfl, Or.inr ⟨by decide, fun q => m2 q.2.2.1⟩, N0, rfl⟩)
    · refine OEnds.st (S' := T0.setTop (mkF m 94 #[vr t, vi 0, vr tp, vi 0, vi 5, vi 1, .unset, .unset] [(.int 1)])) (fun _ k => ?_) ?_
      · refine XS.icmpNo X0.here hx rfl (hb hby d_jdk_48_14_89) rfl (feq m1).1 ?_
        refine XS.iload X0.here hx rfl (hb hby d_jdk_48_14_92) rfl ?_
        exact k
      exact OEnds.ret X0 hx hret hlk rfl (Or.inl ⟨rfl, by simp, _, rfl⟩) (hb hby d_jdk_48_14_94) (by decide) (by decide) (by rw [e0]; exact ⟨_, rfl, Or.inr ⟨by decide, fun q => m1 q.2.1⟩, N0, rfl⟩)
  · refine OEnds.st (S' := T0.setTop (mkF m 94 #[vr t, vi 0, vr tp, vi 0, vi 5, vi 0, .unset, .unset] [(.int 0)])) (fun _ k => ?_) ?_
    · refine XS.icmpNo X0.here hx rfl (hb hby d_jdk_48_14_89) rfl (feq m0).1 ?_
      refine XS.iload X0.here hx rfl (hb hby d_jdk_48_14_92) rfl ?_
      exact k
    exact OEnds.ret X0 hx hret hlk rfl (Or.inl ⟨rfl, by simp, _, rfl⟩) (hb hby d_jdk_48_14_94) (by decide) (by decide) (by rw [e0]; exact ⟨_, rfl, Or.inr ⟨by decide, fun q => m0 q.1⟩, N0, rfl⟩)
-- java/lang/String.startsWith:(Ljava/lang/String;I)Z
def Q_swL2 (Z : State) (a : Addr) (b : Addr) (t tp : Addr) (k kp : ClassId) (z : Int32) (y0 y1 y2 y3 y4 : Int32) (rest : List Value) (h0 : Heap) (v : Option Value) (h : Heap) (L : List Loc) : Prop := ∃ r : Int32, v = some (.int r) ∧ ((r = 1 ∧ PreB y0 y1 y2 y3 y4) ∨ (r = 0 ∧ ¬ PreB y0 y1 y2 y3 y4)) ∧ Fr Z.heap.size L ∧ h = h0
theorem ef_swL2 (m : MethodId) (a : Addr) (b : Addr) : entryFrame m #[(.ref a), (.ref b), (.int 0)] 8 = mkF m 0 #[vr a, vr b, vi 0, .unset, .unset, .unset, .unset, .unset] [] := by first | (simp [entryFrame, mkF, argsToLocals, Value.category, vi, vj, vr]; done) | rfl
theorem d_jdk_42_75_0 : decode jdk_42_method_75_code 0 = .ok (.iload_n 2, 1) := by decide +kernel
theorem d_jdk_42_75_1 : decode jdk_42_method_75_code 1 = .ok (.ifCond .lt 16, 3) := by decide +kernel
theorem d_jdk_42_75_4 : decode jdk_42_method_75_code 4 = .ok (.iload_n 2, 1) := by decide +kernel
theorem d_jdk_42_75_5 : decode jdk_42_method_75_code 5 = .ok (.aload_n 0, 1) := by decide +kernel
theorem d_jdk_42_75_6 : decode jdk_42_method_75_code 6 = .ok (.invokevirtual 505, 3) := by decide +kernel
theorem pd_3 : parseMethodDescriptor "()I" = some ⟨[], some .int⟩ := by decide +kernel
theorem d_jdk_42_75_9 : decode jdk_42_method_75_code 9 = .ok (.aload_n 1, 1) := by decide +kernel
theorem d_jdk_42_75_10 : decode jdk_42_method_75_code 10 = .ok (.invokevirtual 505, 3) := by decide +kernel
theorem d_jdk_42_75_13 : decode jdk_42_method_75_code 13 = .ok (.isub, 1) := by decide +kernel
theorem d_jdk_42_75_14 : decode jdk_42_method_75_code 14 = .ok (.if_icmp .le 5, 3) := by decide +kernel
theorem d_jdk_42_75_19 : decode jdk_42_method_75_code 19 = .ok (.aload_n 0, 1) := by decide +kernel
theorem d_jdk_42_75_20 : decode jdk_42_method_75_code 20 = .ok (.getfield 9, 3) := by decide +kernel
theorem d_jdk_42_75_23 : decode jdk_42_method_75_code 23 = .ok (.astore_n 3, 1) := by decide +kernel
theorem d_jdk_42_75_24 : decode jdk_42_method_75_code 24 = .ok (.aload_n 1, 1) := by decide +kernel
theorem d_jdk_42_75_25 : decode jdk_42_method_75_code 25 = .ok (.getfield 9, 3) := by decide +kernel
theorem d_jdk_42_75_28 : decode jdk_42_method_75_code 28 = .ok (.astore 4, 2) := by decide +kernel
theorem d_jdk_42_75_30 : decode jdk_42_method_75_code 30 = .ok (.iconst 0, 1) := by decide +kernel
theorem d_jdk_42_75_31 : decode jdk_42_method_75_code 31 = .ok (.istore 5, 2) := by decide +kernel
theorem d_jdk_42_75_33 : decode jdk_42_method_75_code 33 = .ok (.aload 4, 2) := by decide +kernel
theorem d_jdk_42_75_35 : decode jdk_42_method_75_code 35 = .ok (.arraylength, 1) := by decide +kernel
theorem d_jdk_42_75_36 : decode jdk_42_method_75_code 36 = .ok (.istore 6, 2) := by decide +kernel
theorem d_jdk_42_75_38 : decode jdk_42_method_75_code 38 = .ok (.aload_n 0, 1) := by decide +kernel
theorem d_jdk_42_75_39 : decode jdk_42_method_75_code 39 = .ok (.invokevirtual 335, 3) := by decide +kernel
theorem d_jdk_42_75_42 : decode jdk_42_method_75_code 42 = .ok (.istore 7, 2) := by decide +kernel
theorem d_jdk_42_75_44 : decode jdk_42_method_75_code 44 = .ok (.iload 7, 2) := by decide +kernel
theorem d_jdk_42_75_46 : decode jdk_42_method_75_code 46 = .ok (.aload_n 1, 1) := by decide +kernel
theorem d_jdk_42_75_47 : decode jdk_42_method_75_code 47 = .ok (.invokevirtual 335, 3) := by decide +kernel
theorem d_jdk_42_75_50 : decode jdk_42_method_75_code 50 = .ok (.if_icmp .ne 32, 3) := by decide +kernel
theorem d_jdk_42_75_53 : decode jdk_42_method_75_code 53 = .ok (.iload 7, 2) := by decide +kernel
theorem d_jdk_42_75_55 : decode jdk_42_method_75_code 55 = .ok (.iconst 1, 1) := by decide +kernel
theorem d_jdk_42_75_56 : decode jdk_42_method_75_code 56 = .ok (.if_icmp .ne 7, 3) := by decide +kernel
theorem d_jdk_42_75_63 : decode jdk_42_method_75_code 63 = .ok (.aload_n 3, 1) := by decide +kernel
theorem d_jdk_42_75_64 : decode jdk_42_method_75_code 64 = .ok (.iload_n 2, 1) := by decide +kernel
theorem d_jdk_42_75_65 : decode jdk_42_method_75_code 65 = .ok (.aload 4, 2) := by decide +kernel
theorem d_jdk_42_75_67 : decode jdk_42_method_75_code 67 = .ok (.iconst 0, 1) := by decide +kernel
theorem d_jdk_42_75_68 : decode jdk_42_method_75_code 68 = .ok (.iload 6, 2) := by decide +kernel
theorem d_jdk_42_75_70 : decode jdk_42_method_75_code 70 = .ok (.invokestatic 607, 3) := by decide +kernel
theorem pd_4 : parseMethodDescriptor "([BI[BII)I" = some ⟨[(.array .byte), .int, (.array .byte), .int, .int], some .int⟩ := by decide +kernel
theorem d_jdk_42_75_73 : decode jdk_42_method_75_code 73 = .ok (.ifCond .ge 7, 3) := by decide +kernel
theorem d_jdk_42_75_76 : decode jdk_42_method_75_code 76 = .ok (.iconst 1, 1) := by decide +kernel
theorem d_jdk_42_75_77 : decode jdk_42_method_75_code 77 = .ok (.goto 4, 3) := by decide +kernel
theorem d_jdk_42_75_81 : decode jdk_42_method_75_code 81 = .ok (.ireturn, 1) := by decide +kernel
theorem d_jdk_42_75_80 : decode jdk_42_method_75_code 80 = .ok (.iconst 0, 1) := by decide +kernel
set_option maxRecDepth 65536 in
set_option maxHeartbeats 40000000 in
theorem rm_swL2 (l : Launch) {Z : State} {a0 : Array Value} (hD : Wd Z a0) (a : Addr) (b : Addr) (t tp : Addr) (k kp : ClassId) (z : Int32) (y0 y1 y2 y3 y4 : Int32) (rest : List Value) {h0 : Heap} (O0 : Ext Z.heap h0) (E_a : Exa Z h0 a "java/lang/String") (F_coder_a : Fld Z h0 a "java/lang/String" "coder" "B" (.int 0)) (F_value_a : Fld Z h0 a "java/lang/String" "value" "[B" (.ref t)) (V_t : Arv Z h0 t k .byte z ((.int y0) :: (.int y1) :: (.int y2) :: (.int y3) :: (.int y4) :: rest) (.int 0)) (E_b : Exa Z h0 b "java/lang/String") (F_coder_b : Fld Z h0 b "java/lang/String" "coder" "B" (.int 0)) (F_value_b : Fld Z h0 b "java/lang/String" "value" "[B" (.ref tp)) (V_tp : Arv Z h0 tp kp .byte (5 : Int32) [(.int 117), (.int 115), (.int 101), (.int 114), (.int 58)] (.int 0)) (hz : ¬ z < 5) :
    Con l Z (⟨"java/lang/String", "startsWith", "(Ljava/lang/String;I)Z"⟩ : MethodName) jdk_42_method_75_code 8 (some .boolean) [] ({ frames := 2, cells := 0, slots := 0, locals := 27 } : Room) #[(.ref a), (.ref b), (.int 0)] h0 (Q_swL2 Z a b t tp k kp z y0 y1 y2 y3 y4 rest h0) := by
  refine Con.walk (plainFor_of_name pn_1) ?_
  intro p e s m below meth c T0 X0 hx hZ hby hml hown hnm hret hlk e0
  obtain ⟨hw, ⟨cz, S_CS, hcz⟩, ⟨sf, S_SF, hsf⟩⟩ := id hD
  have N0 := Fr.nil Z.heap.size
  refine OEnds.cast (ef_swL2 m a b) ?_
  refine OEnds.st (S' := T0.setTop (mkF m 6 #[vr a, vr b, vi 0, .unset, .unset, .unset, .unset, .unset] [(.ref a), (.int 0)])) (fun _ k => ?_) ?_
  · refine XS.iloadN X0.here hx rfl (hb hby d_jdk_42_75_0) rfl ?_
    refine XS.ifNo X0.here hx rfl (hb hby d_jdk_42_75_1) rfl ((if0 _ _).trans (flt (by decide)).1) ?_
    refine XS.iloadN X0.here hx rfl (hb hby d_jdk_42_75_4) rfl ?_
    refine XS.aloadN X0.here hx rfl (hb hby d_jdk_42_75_5) rfl rfl ?_
    exact k
  obtain ⟨_, T1, h1, L1, X1, e1, hQ1, st1⟩ := virtC X0 hx hZ (y := (⟨"java/lang/String", "length", "()I"⟩ : MethodName)) (z := (⟨"java/lang/String", "length", "()I"⟩ : MethodName)) hown (wq hw 44 rfl) (wq hw 45 rfl) (nf_sel (args := #[]) (mvT hZ (wq hw 37 rfl)) rfl) (wq hw 47 rfl) (wq hw 46 rfl) (by decide) (kc := 0) (ks := 0) (Con.sb (W := 1) (rm_strLen l hD a t k z ((.int y0) :: (.int y1) :: (.int y2) :: (.int y3) :: (.int y4) :: rest) O0 E_a F_coder_a F_value_a V_t) hZ (wq hw 48 rfl) (wq hw 10 rfl) (by decide) (by decide)) e0 E_a (g := (mkF m 6 #[vr a, vr b, vi 0, .unset, .unset, .unset, .unset, .unset] [(.ref a), (.int 0)])) rfl (by rw [hml]; rfl) (argsL := []) (rest := [(.int 0)]) (lenOf pd_3 rfl) rfl (by show 2 * 0 + _ ≤ _; exact Nat.le_of_eq rfl) (hb hby d_jdk_42_75_6) (by decide) (by decide)
  obtain ⟨rfl, Nq1, Hq1⟩ := hQ1
  refine OEnds.st st1 ?_
  replace N0 := Fr.app N0 Nq1
  replace e1 := e1.trans Hq1
  refine OEnds.st (S' := T1.setTop (mkF m 10 #[vr a, vr b, vi 0, .unset, .unset, .unset, .unset, .unset] [(.ref b), (.int z), (.int 0)])) (fun _ k => ?_) ?_
  · refine XS.aloadN X1.here hx rfl (hb hby d_jdk_42_75_9) rfl rfl ?_
    exact k
  obtain ⟨_, T2, h2, L2, X2, e2, hQ2, st2⟩ := virtC X1 hx hZ (y := (⟨"java/lang/String", "length", "()I"⟩ : MethodName)) (z := (⟨"java/lang/String", "length", "()I"⟩ : MethodName)) hown (wq hw 44 rfl) (wq hw 45 rfl) (nf_sel (args := #[]) (mvT hZ (wq hw 37 rfl)) rfl) (wq hw 47 rfl) (wq hw 46 rfl) (by decide) (kc := 0) (ks := 0) (Con.sb (W := 2) (rm_strLen l hD b tp kp (5 : Int32) [(.int 117), (.int 115), (.int 101), (.int 114), (.int 58)] O0 E_b F_coder_b F_value_b V_tp) hZ (wq hw 48 rfl) (wq hw 10 rfl) (by decide) (by decide)) e1 E_b (g := (mkF m 10 #[vr a, vr b, vi 0, .unset, .unset, .unset, .unset, .unset] [(.ref b), (.int z), (.int 0)])) rfl (by rw [hml]; rfl) (argsL := []) (rest := [(.int z), (.int 0)]) (lenOf pd_3 rfl) rfl (by show 2 * 0 + _ ≤ _; exact Nat.le_of_eq rfl) (hb hby d_jdk_42_75_10) (by decide) (by decide)
  obtain ⟨rfl, Nq2, Hq2⟩ := hQ2
  refine OEnds.st st2 ?_
  replace N0 := Fr.app N0 Nq2
  replace e2 := e2.trans Hq2
  refine OEnds.st (S' := T2.setTop (mkF m 20 #[vr a, vr b, vi 0, .unset, .unset, .unset, .unset, .unset] [(.ref a)])) (fun _ k => ?_) ?_
  · refine XS.isub X2.here hx rfl (hb hby d_jdk_42_75_13) rfl ?_
    refine XS.icmpYes X2.here hx rfl (pc0 := 14) (pc' := 19) rfl (hb hby d_jdk_42_75_14) rfl (flt (ge5 hz)).2.2.2 (by decide) (by decide) ?_
    refine XS.aloadN X2.here hx rfl (hb hby d_jdk_42_75_19) rfl rfl ?_
    exact k
  obtain ⟨T3, X3, e3, st3⟩ := getF X2 hx hZ hown (host := "") (Or.inl (wq hw 27 rfl)) Via.refl e2 F_value_a (g := (mkF m 20 #[vr a, vr b, vi 0, .unset, .unset, .unset, .unset, .unset] [(.ref a)])) rfl rfl (hb hby d_jdk_42_75_20)
  refine OEnds.st st3 ?_
  refine OEnds.st (S' := T3.setTop (mkF m 25 #[vr a, vr b, vi 0, vr t, .unset, .unset, .unset, .unset] [(.ref b)])) (fun _ k => ?_) ?_
  · refine XS.astoreN X3.here hx rfl (hb hby d_jdk_42_75_23) rfl rfl (l' := #[vr a, vr b, vi 0, vr t, .unset, .unset, .unset, .unset]) rfl ?_
    refine XS.aloadN X3.here hx rfl (hb hby d_jdk_42_75_24) rfl rfl ?_
    exact k
  obtain ⟨T4, X4, e4, st4⟩ := getF X3 hx hZ hown (host := "") (Or.inl (wq hw 27 rfl)) Via.refl e3 F_value_b (g := (mkF m 25 #[vr a, vr b, vi 0, vr t, .unset, .unset, .unset, .unset] [(.ref b)])) rfl rfl (hb hby d_jdk_42_75_25)
  refine OEnds.st st4 ?_
  refine OEnds.st (S' := T4.setTop (mkF m 35 #[vr a, vr b, vi 0, vr t, vr tp, vi 0, .unset, .unset] [(.ref tp)])) (fun _ k => ?_) ?_
  · refine XS.astore X4.here hx rfl (hb hby d_jdk_42_75_28) rfl rfl (l' := #[vr a, vr b, vi 0, vr t, vr tp, .unset, .unset, .unset]) rfl ?_
    refine XS.iconst X4.here hx rfl (hb hby d_jdk_42_75_30) ?_
    refine XS.istore X4.here hx rfl (hb hby d_jdk_42_75_31) rfl (l' := #[vr a, vr b, vi 0, vr t, vr tp, vi 0, .unset, .unset]) rfl ?_
    refine XS.aload X4.here hx rfl (hb hby d_jdk_42_75_33) rfl rfl ?_
    exact k
  obtain ⟨cl_tp_5, Ar_tp_5, q_tp_5, S_tp_5, N_tp_5, H_tp_5, G_tp_5⟩ := id V_tp
  refine OEnds.st (S' := T4.setTop (mkF m 36 #[vr a, vr b, vi 0, vr t, vr tp, vi 0, .unset, .unset] [(.int 5)])) (fun tg kq9 => X4.arraylength hx (by rw [e4]; exact Ar_tp_5.1) (State.isArrayOf_alike hZ.alike Ar_tp_5.2.1) (g := (mkF m 35 #[vr a, vr b, vi 0, vr t, vr tp, vi 0, .unset, .unset] [(.ref tp)])) rfl rfl (hb hby d_jdk_42_75_35) tg (by rw [len_of S_tp_5 N_tp_5]; exact kq9)) ?_
  refine OEnds.st (S' := T4.setTop (mkF m 39 #[vr a, vr b, vi 0, vr t, vr tp, vi 0, vi 5, .unset] [(.ref a)])) (fun _ k => ?_) ?_
  · refine XS.istore X4.here hx rfl (hb hby d_jdk_42_75_36) rfl (l' := #[vr a, vr b, vi 0, vr t, vr tp, vi 0, vi 5, .unset]) rfl ?_
    refine XS.aloadN X4.here hx rfl (hb hby d_jdk_42_75_38) rfl rfl ?_
    exact k
  obtain ⟨_, T6, h6, L6, X6, e6, hQ6, st6⟩ := virtC X4 hx hZ (y := (⟨"java/lang/String", "coder", "()B"⟩ : MethodName)) (z := (⟨"java/lang/String", "coder", "()B"⟩ : MethodName)) hown (wq hw 49 rfl) (wq hw 50 rfl) (nf_sel (args := #[]) (mvT hZ (wq hw 37 rfl)) rfl) (wq hw 52 rfl) (wq hw 51 rfl) (by decide) (kc := 0) (ks := 0) (Con.sb (W := 0) (rm_coder l hD a O0 F_coder_a) hZ (wq hw 53 rfl) (wq hw 10 rfl) (by decide) (by decide)) e4 E_a (g := (mkF m 39 #[vr a, vr b, vi 0, vr t, vr tp, vi 0, vi 5, .unset] [(.ref a)])) rfl (by rw [hml]; rfl) (argsL := []) (rest := []) (lenOf pd_0 rfl) rfl (by show 2 * 0 + _ ≤ _; exact Nat.le_of_eq rfl) (hb hby d_jdk_42_75_39) (by decide) (by decide)
  obtain ⟨rfl, Nq6, Hq6⟩ := hQ6
  refine OEnds.st st6 ?_
  replace N0 := Fr.app N0 Nq6
  replace e6 := e6.trans Hq6
  refine OEnds.st (S' := T6.setTop (mkF m 47 #[vr a, vr b, vi 0, vr t, vr tp, vi 0, vi 5, vi 0] [(.ref b), (.int 0)])) (fun _ k => ?_) ?_
  · refine XS.istore X6.here hx rfl (hb hby d_jdk_42_75_42) rfl (l' := #[vr a, vr b, vi 0, vr t, vr tp, vi 0, vi 5, vi 0]) rfl ?_
    refine XS.iload X6.here hx rfl (hb hby d_jdk_42_75_44) rfl ?_
    refine XS.aloadN X6.here hx rfl (hb hby d_jdk_42_75_46) rfl rfl ?_
    exact k
  obtain ⟨_, T7, h7, L7, X7, e7, hQ7, st7⟩ := virtC X6 hx hZ (y := (⟨"java/lang/String", "coder", "()B"⟩ : MethodName)) (z := (⟨"java/lang/String", "coder", "()B"⟩ : MethodName)) hown (wq hw 49 rfl) (wq hw 50 rfl) (nf_sel (args := #[]) (mvT hZ (wq hw 37 rfl)) rfl) (wq hw 52 rfl) (wq hw 51 rfl) (by decide) (kc := 0) (ks := 0) (Con.sb (W := 1) (rm_coder l hD b O0 F_coder_b) hZ (wq hw 53 rfl) (wq hw 10 rfl) (by decide) (by decide)) e6 E_b (g := (mkF m 47 #[vr a, vr b, vi 0, vr t, vr tp, vi 0, vi 5, vi 0] [(.ref b), (.int 0)])) rfl (by rw [hml]; rfl) (argsL := []) (rest := [(.int 0)]) (lenOf pd_0 rfl) rfl (by show 2 * 0 + _ ≤ _; exact Nat.le_of_eq rfl) (hb hby d_jdk_42_75_47) (by decide) (by decide)
  obtain ⟨rfl, Nq7, Hq7⟩ := hQ7
  refine OEnds.st st7 ?_
  replace N0 := Fr.app N0 Nq7
  replace e7 := e7.trans Hq7
  refine OEnds.st (S' := T7.setTop (mkF m 70 #[vr a, vr b, vi 0, vr t, vr tp, vi 0, vi 5, vi 0] [(.int 5), (.int 0), (.ref tp), (.int 0), (.ref t)])) (fun _ k => ?_) ?_
  · refine XS.icmpNo X7.here hx rfl (hb hby d_jdk_42_75_50) rfl (teq (by decide)).2 ?_
    refine XS.iload X7.here hx rfl (hb hby d_jdk_42_75_53) rfl ?_
    refine XS.iconst X7.here hx rfl (hb hby d_jdk_42_75_55) ?_
    refine XS.icmpYes X7.here hx rfl (pc0 := 56) (pc' := 63) rfl (hb hby d_jdk_42_75_56) rfl (feq (by decide)).2 (by decide) (by decide) ?_
    show Steps p.tables e below (T7.setTop (mkF m 63 #[vr a, vr b, vi 0, vr t, vr tp, vi 0, vi 5, vi 0] [])) _
    refine XS.aloadN X7.here hx rfl (hb hby d_jdk_42_75_63) rfl rfl ?_
    refine XS.iloadN X7.here hx rfl (hb hby d_jdk_42_75_64) rfl ?_
    refine XS.aload X7.here hx rfl (hb hby d_jdk_42_75_65) rfl rfl ?_
    refine XS.iconst X7.here hx rfl (hb hby d_jdk_42_75_67) ?_
    show Steps p.tables e below (T7.setTop (mkF m 68 #[vr a, vr b, vi 0, vr t, vr tp, vi 0, vi 5, vi 0] [(.int 0), (.ref tp), (.int 0), (.ref t)])) _
    refine XS.iload X7.here hx rfl (hb hby d_jdk_42_75_68) rfl ?_
    exact k
  obtain ⟨_, T8, h8, L8, X8, e8, hQ8, st8⟩ := callC X7 hx hZ hown (wq hw 65 rfl) (wq hw 66 rfl) (wq hw 67 rfl) (wq hw 68 rfl) (by decide) (kc := 0) (ks := 0) (Con.sb (W := 0) (rm_mism l hD t tp k kp z y0 y1 y2 y3 y4 rest O0 V_t V_tp hz) hZ (wq hw 68 rfl) (wq hw 67 rfl) (by decide) (by decide)) e7 (g := (mkF m 70 #[vr a, vr b, vi 0, vr t, vr tp, vi 0, vi 5, vi 0] [(.int 5), (.int 0), (.ref tp), (.int 0), (.ref t)])) rfl (by rw [hml]; rfl) (argsL := [(.ref t), (.int 0), (.ref tp), (.int 0), (.int 5)]) (rest := []) (lenOf pd_4 rfl) rfl (by show 2 * 0 + _ ≤ _; exact Nat.le_of_eq rfl) (hb hby d_jdk_42_75_70) (by decide) (by decide)
  obtain ⟨r8, rfl, hr8, Nq8, Hq8⟩ := hQ8
  refine OEnds.st st8 ?_
  replace N0 := Fr.app N0 Nq8
  replace e8 := e8.trans Hq8
  rcases Classical.em (r8 < (0 : Int32)) with g0 | g0
  · refine OEnds.st (S' := T8.setTop (mkF m 81 #[vr a, vr b, vi 0, vr t, vr tp, vi 0, vi 5, vi 0] [(.int 1)])) (fun _ k => ?_) ?_
    · refine XS.ifNo X8.here hx rfl (hb hby d_jdk_42_75_73) rfl ((if0 _ _).trans (tlt g0).2.1) ?_
      refine XS.iconst X8.here hx rfl (hb hby d_jdk_42_75_76) ?_
      refine XS.goto X8.here hx rfl (pc0 := 77) (pc' := 81) rfl (hb hby d_jdk_42_75_77) (by decide) (by decide) ?_
      exact k
    exact OEnds.ret X8 hx hret hlk (by decide) (Or.inl ⟨rfl, by simp, _, rfl⟩) (hb hby d_jdk_42_75_81) (by decide) (by decide) (by rw [e8]; exact ⟨_, rfl, Or.inl ⟨rfl, hr8.elim (·.2) (fun q => absurd g0 q.1)⟩, N0, rfl⟩)
  · refine OEnds.st (S' := T8.setTop (mkF m 81 #[vr a, vr b, vi 0, vr t, vr tp, vi 0, vi 5, vi 0] [(.int 0)])) (fun _ k => ?_) ?_
    · refine XS.ifYes X8.here hx rfl (pc0 := 73) (pc' := 80) rfl (hb hby d_jdk_42_75_73) rfl ((if0 _ _).trans (flt g0).2.1) (by decide) (by decide) ?_
      refine XS.iconst X8.here hx rfl (hb hby d_jdk_42_75_80) ?_
      exact k
    exact OEnds.ret X8 hx hret hlk (by decide) (Or.inl ⟨rfl, by simp, _, rfl⟩) (hb hby d_jdk_42_75_81) (by decide) (by decide) (by rw [e8]; exact ⟨_, rfl, Or.inr ⟨rfl, hr8.elim (fun q => absurd q.1 g0) (·.2)⟩, N0, rfl⟩)
-- java/lang/String.startsWith:(Ljava/lang/String;)Z
def Q_swL1 (Z : State) (a : Addr) (b : Addr) (t tp : Addr) (k kp : ClassId) (z : Int32) (y0 y1 y2 y3 y4 : Int32) (rest : List Value) (h0 : Heap) (v : Option Value) (h : Heap) (L : List Loc) : Prop := ∃ r : Int32, v = some (.int r) ∧ ((r = 1 ∧ PreB y0 y1 y2 y3 y4) ∨ (r = 0 ∧ ¬ PreB y0 y1 y2 y3 y4)) ∧ Fr Z.heap.size L ∧ h = h0
theorem ef_swL1 (m : MethodId) (a : Addr) (b : Addr) : entryFrame m #[(.ref a), (.ref b)] 2 = mkF m 0 #[vr a, vr b] [] := by first | (simp [entryFrame, mkF, argsToLocals, Value.category, vi, vj, vr]; done) | rfl
theorem d_jdk_42_76_0 : decode jdk_42_method_76_code 0 = .ok (.aload_n 0, 1) := by decide +kernel
theorem d_jdk_42_76_1 : decode jdk_42_method_76_code 1 = .ok (.aload_n 1, 1) := by decide +kernel
theorem d_jdk_42_76_2 : decode jdk_42_method_76_code 2 = .ok (.iconst 0, 1) := by decide +kernel
theorem d_jdk_42_76_3 : decode jdk_42_method_76_code 3 = .ok (.invokevirtual 624, 3) := by decide +kernel
theorem pd_5 : parseMethodDescriptor "(Ljava/lang/String;I)Z" = some ⟨[(.object "java/lang/String"), .int], some .boolean⟩ := by decide +kernel
theorem d_jdk_42_76_6 : decode jdk_42_method_76_code 6 = .ok (.ireturn, 1) := by decide +kernel
set_option maxRecDepth 65536 in
set_option maxHeartbeats 40000000 in
theorem rm_swL1 (l : Launch) {Z : State} {a0 : Array Value} (hD : Wd Z a0) (a : Addr) (b : Addr) (t tp : Addr) (k kp : ClassId) (z : Int32) (y0 y1 y2 y3 y4 : Int32) (rest : List Value) {h0 : Heap} (O0 : Ext Z.heap h0) (E_a : Exa Z h0 a "java/lang/String") (F_coder_a : Fld Z h0 a "java/lang/String" "coder" "B" (.int 0)) (F_value_a : Fld Z h0 a "java/lang/String" "value" "[B" (.ref t)) (V_t : Arv Z h0 t k .byte z ((.int y0) :: (.int y1) :: (.int y2) :: (.int y3) :: (.int y4) :: rest) (.int 0)) (E_b : Exa Z h0 b "java/lang/String") (F_coder_b : Fld Z h0 b "java/lang/String" "coder" "B" (.int 0)) (F_value_b : Fld Z h0 b "java/lang/String" "value" "[B" (.ref tp)) (V_tp : Arv Z h0 tp kp .byte (5 : Int32) [(.int 117), (.int 115), (.int 101), (.int 114), (.int 58)] (.int 0)) (hz : ¬ z < 5) :
    Con l Z (⟨"java/lang/String", "startsWith", "(Ljava/lang/String;)Z"⟩ : MethodName) jdk_42_method_76_code 2 (some .boolean) [] ({ frames := 3, cells := 0, slots := 0, locals := 46 } : Room) #[(.ref a), (.ref b)] h0 (Q_swL1 Z a b t tp k kp z y0 y1 y2 y3 y4 rest h0) := by
  refine Con.walk (plainFor_of_name pn_1) ?_
  intro p e s m below meth c T0 X0 hx hZ hby hml hown hnm hret hlk e0
  obtain ⟨hw, ⟨cz, S_CS, hcz⟩, ⟨sf, S_SF, hsf⟩⟩ := id hD
  have N0 := Fr.nil Z.heap.size
  refine OEnds.cast (ef_swL1 m a b) ?_
  refine OEnds.st (S' := T0.setTop (mkF m 3 #[vr a, vr b] [(.int 0), (.ref b), (.ref a)])) (fun _ k => ?_) ?_
  · refine XS.aloadN X0.here hx rfl (hb hby d_jdk_42_76_0) rfl rfl ?_
    refine XS.aloadN X0.here hx rfl (hb hby d_jdk_42_76_1) rfl rfl ?_
    refine XS.iconst X0.here hx rfl (hb hby d_jdk_42_76_2) ?_
    exact k
  obtain ⟨_, T1, h1, L1, X1, e1, hQ1, st1⟩ := virtC X0 hx hZ (y := (⟨"java/lang/String", "startsWith", "(Ljava/lang/String;I)Z"⟩ : MethodName)) (z := (⟨"java/lang/String", "startsWith", "(Ljava/lang/String;I)Z"⟩ : MethodName)) hown (wq hw 39 rfl) (wq hw 40 rfl) (nf_sel (args := #[]) (mvT hZ (wq hw 37 rfl)) rfl) (wq hw 42 rfl) (wq hw 41 rfl) (by decide) (kc := 0) (ks := 0) (Con.sb (W := 0) (rm_swL2 l hD a b t tp k kp z y0 y1 y2 y3 y4 rest O0 E_a F_coder_a F_value_a V_t E_b F_coder_b F_value_b V_tp hz) hZ (wq hw 43 rfl) (wq hw 10 rfl) (by decide) (by decide)) e0 E_a (g := (mkF m 3 #[vr a, vr b] [(.int 0), (.ref b), (.ref a)])) rfl (by rw [hml]; rfl) (argsL := [(.ref b), (.int 0)]) (rest := []) (lenOf pd_5 rfl) rfl (by show 2 * 0 + _ ≤ _; exact Nat.le_of_eq rfl) (hb hby d_jdk_42_76_3) (by decide) (by decide)
  obtain ⟨r1, rfl, hr1, Nq1, Hq1⟩ := hQ1
  refine OEnds.st st1 ?_
  replace N0 := Fr.app N0 Nq1
  replace e1 := e1.trans Hq1
  have hn_1 : narrow .boolean (.int r1) = .int r1 := by rcases hr1 with ⟨q, -⟩ | ⟨q, -⟩ <;> rw [q] <;> decide
  exact OEnds.ret X1 hx hret hlk hn_1 (Or.inl ⟨rfl, by simp, _, rfl⟩) (hb hby d_jdk_42_76_6) (by decide) (by decide) (by rw [e1]; exact ⟨_, rfl, hr1, N0, rfl⟩)
-- java/lang/String.startsWith:(Ljava/lang/String;I)Z
def Q_swS2 (Z : State) (a : Addr) (b : Addr) (t tp : Addr) (k kp : ClassId) (z : Int32) (us : List Value) (h0 : Heap) (v : Option Value) (h : Heap) (L : List Loc) : Prop := v = some (.int 0) ∧ Fr Z.heap.size L ∧ h = h0
theorem ef_swS2 (m : MethodId) (a : Addr) (b : Addr) : entryFrame m #[(.ref a), (.ref b), (.int 0)] 8 = mkF m 0 #[vr a, vr b, vi 0, .unset, .unset, .unset, .unset, .unset] [] := by first | (simp [entryFrame, mkF, argsToLocals, Value.category, vi, vj, vr]; done) | rfl
theorem d_jdk_42_75_17 : decode jdk_42_method_75_code 17 = .ok (.iconst 0, 1) := by decide +kernel
theorem d_jdk_42_75_18 : decode jdk_42_method_75_code 18 = .ok (.ireturn, 1) := by decide +kernel
set_option maxRecDepth 65536 in
set_option maxHeartbeats 40000000 in
theorem rm_swS2 (l : Launch) {Z : State} {a0 : Array Value} (hD : Wd Z a0) (a : Addr) (b : Addr) (t tp : Addr) (k kp : ClassId) (z : Int32) (us : List Value) {h0 : Heap} (O0 : Ext Z.heap h0) (E_a : Exa Z h0 a "java/lang/String") (F_coder_a : Fld Z h0 a "java/lang/String" "coder" "B" (.int 0)) (F_value_a : Fld Z h0 a "java/lang/String" "value" "[B" (.ref t)) (V_t : Arv Z h0 t k .byte z us (.int 0)) (E_b : Exa Z h0 b "java/lang/String") (F_coder_b : Fld Z h0 b "java/lang/String" "coder" "B" (.int 0)) (F_value_b : Fld Z h0 b "java/lang/String" "value" "[B" (.ref tp)) (V_tp : Arv Z h0 tp kp .byte (5 : Int32) [(.int 117), (.int 115), (.int 101), (.int 114), (.int 58)] (.int 0)) (hz : z < 5 ∧ ¬ z < 0) :
    Con l Z (⟨"java/lang/String", "startsWith", "(Ljava/lang/String;I)Z"⟩ : MethodName) jdk_42_method_75_code 8 (some .boolean) [] ({ frames := 2, cells := 0, slots := 0, locals := 27 } : Room) #[(.ref a), (.ref b), (.int 0)] h0 (Q_swS2 Z a b t tp k kp z us h0) := by
  refine Con.walk (plainFor_of_name pn_1) ?_
  intro p e s m below meth c T0 X0 hx hZ hby hml hown hnm hret hlk e0
  obtain ⟨hw, ⟨cz, S_CS, hcz⟩, ⟨sf, S_SF, hsf⟩⟩ := id hD
  have N0 := Fr.nil Z.heap.size
  refine OEnds.cast (ef_swS2 m a b) ?_
  refine OEnds.st (S' := T0.setTop (mkF m 6 #[vr a, vr b, vi 0, .unset, .unset, .unset, .unset, .unset] [(.ref a), (.int 0)])) (fun _ k => ?_) ?_
  · refine XS.iloadN X0.here hx rfl (hb hby d_jdk_42_75_0) rfl ?_
    refine XS.ifNo X0.here hx rfl (hb hby d_jdk_42_75_1) rfl ((if0 _ _).trans (flt (by decide)).1) ?_
    refine XS.iloadN X0.here hx rfl (hb hby d_jdk_42_75_4) rfl ?_
    refine XS.aloadN X0.here hx rfl (hb hby d_jdk_42_75_5) rfl rfl ?_
    exact k
  obtain ⟨_, T1, h1, L1, X1, e1, hQ1, st1⟩ := virtC X0 hx hZ (y := (⟨"java/lang/String", "length", "()I"⟩ : MethodName)) (z := (⟨"java/lang/String", "length", "()I"⟩ : MethodName)) hown (wq hw 44 rfl) (wq hw 45 rfl) (nf_sel (args := #[]) (mvT hZ (wq hw 37 rfl)) rfl) (wq hw 47 rfl) (wq hw 46 rfl) (by decide) (kc := 0) (ks := 0) (Con.sb (W := 1) (rm_strLen l hD a t k z us O0 E_a F_coder_a F_value_a V_t) hZ (wq hw 48 rfl) (wq hw 10 rfl) (by decide) (by decide)) e0 E_a (g := (mkF m 6 #[vr a, vr b, vi 0, .unset, .unset, .unset, .unset, .unset] [(.ref a), (.int 0)])) rfl (by rw [hml]; rfl) (argsL := []) (rest := [(.int 0)]) (lenOf pd_3 rfl) rfl (by show 2 * 0 + _ ≤ _; exact Nat.le_of_eq rfl) (hb hby d_jdk_42_75_6) (by decide) (by decide)
  obtain ⟨rfl, Nq1, Hq1⟩ := hQ1
  refine OEnds.st st1 ?_
  replace N0 := Fr.app N0 Nq1
  replace e1 := e1.trans Hq1
  refine OEnds.st (S' := T1.setTop (mkF m 10 #[vr a, vr b, vi 0, .unset, .unset, .unset, .unset, .unset] [(.ref b), (.int z), (.int 0)])) (fun _ k => ?_) ?_
  · refine XS.aloadN X1.here hx rfl (hb hby d_jdk_42_75_9) rfl rfl ?_
    exact k
  obtain ⟨_, T2, h2, L2, X2, e2, hQ2, st2⟩ := virtC X1 hx hZ (y := (⟨"java/lang/String", "length", "()I"⟩ : MethodName)) (z := (⟨"java/lang/String", "length", "()I"⟩ : MethodName)) hown (wq hw 44 rfl) (wq hw 45 rfl) (nf_sel (args := #[]) (mvT hZ (wq hw 37 rfl)) rfl) (wq hw 47 rfl) (wq hw 46 rfl) (by decide) (kc := 0) (ks := 0) (Con.sb (W := 2) (rm_strLen l hD b tp kp (5 : Int32) [(.int 117), (.int 115), (.int 101), (.int 114), (.int 58)] O0 E_b F_coder_b F_value_b V_tp) hZ (wq hw 48 rfl) (wq hw 10 rfl) (by decide) (by decide)) e1 E_b (g := (mkF m 10 #[vr a, vr b, vi 0, .unset, .unset, .unset, .unset, .unset] [(.ref b), (.int z), (.int 0)])) rfl (by rw [hml]; rfl) (argsL := []) (rest := [(.int z), (.int 0)]) (lenOf pd_3 rfl) rfl (by show 2 * 0 + _ ≤ _; exact Nat.le_of_eq rfl) (hb hby d_jdk_42_75_10) (by decide) (by decide)
  obtain ⟨rfl, Nq2, Hq2⟩ := hQ2
  refine OEnds.st st2 ?_
  replace N0 := Fr.app N0 Nq2
  replace e2 := e2.trans Hq2
  refine OEnds.st (S' := T2.setTop (mkF m 18 #[vr a, vr b, vi 0, .unset, .unset, .unset, .unset, .unset] [(.int 0)])) (fun _ k => ?_) ?_
  · refine XS.isub X2.here hx rfl (hb hby d_jdk_42_75_13) rfl ?_
    refine XS.icmpNo X2.here hx rfl (hb hby d_jdk_42_75_14) rfl (tlt (lt5 hz.1 hz.2)).2.2.2 ?_
    refine XS.iconst X2.here hx rfl (hb hby d_jdk_42_75_17) ?_
    exact k
  exact OEnds.ret X2 hx hret hlk (by decide) (Or.inl ⟨rfl, by simp, _, rfl⟩) (hb hby d_jdk_42_75_18) (by decide) (by decide) (by rw [e2]; exact ⟨rfl, N0, rfl⟩)
-- java/lang/String.startsWith:(Ljava/lang/String;)Z
def Q_swS1 (Z : State) (a : Addr) (b : Addr) (t tp : Addr) (k kp : ClassId) (z : Int32) (us : List Value) (h0 : Heap) (v : Option Value) (h : Heap) (L : List Loc) : Prop := v = some (.int 0) ∧ Fr Z.heap.size L ∧ h = h0
theorem ef_swS1 (m : MethodId) (a : Addr) (b : Addr) : entryFrame m #[(.ref a), (.ref b)] 2 = mkF m 0 #[vr a, vr b] [] := by first | (simp [entryFrame, mkF, argsToLocals, Value.category, vi, vj, vr]; done) | rfl
set_option maxRecDepth 65536 in
set_option maxHeartbeats 40000000 in
theorem rm_swS1 (l : Launch) {Z : State} {a0 : Array Value} (hD : Wd Z a0) (a : Addr) (b : Addr) (t tp : Addr) (k kp : ClassId) (z : Int32) (us : List Value) {h0 : Heap} (O0 : Ext Z.heap h0) (E_a : Exa Z h0 a "java/lang/String") (F_coder_a : Fld Z h0 a "java/lang/String" "coder" "B" (.int 0)) (F_value_a : Fld Z h0 a "java/lang/String" "value" "[B" (.ref t)) (V_t : Arv Z h0 t k .byte z us (.int 0)) (E_b : Exa Z h0 b "java/lang/String") (F_coder_b : Fld Z h0 b "java/lang/String" "coder" "B" (.int 0)) (F_value_b : Fld Z h0 b "java/lang/String" "value" "[B" (.ref tp)) (V_tp : Arv Z h0 tp kp .byte (5 : Int32) [(.int 117), (.int 115), (.int 101), (.int 114), (.int 58)] (.int 0)) (hz : z < 5 ∧ ¬ z < 0) :
    Con l Z (⟨"java/lang/String", "startsWith", "(Ljava/lang/String;)Z"⟩ : MethodName) jdk_42_method_76_code 2 (some .boolean) [] ({ frames := 3, cells := 0, slots := 0, locals := 46 } : Room) #[(.ref a), (.ref b)] h0 (Q_swS1 Z a b t tp k kp z us h0) := by
  refine Con.walk (plainFor_of_name pn_1) ?_
  intro p e s m below meth c T0 X0 hx hZ hby hml hown hnm hret hlk e0
  obtain ⟨hw, ⟨cz, S_CS, hcz⟩, ⟨sf, S_SF, hsf⟩⟩ := id hD
  have N0 := Fr.nil Z.heap.size
  refine OEnds.cast (ef_swS1 m a b) ?_
  refine OEnds.st (S' := T0.setTop (mkF m 3 #[vr a, vr b] [(.int 0), (.ref b), (.ref a)])) (fun _ k => ?_) ?_
  · refine XS.aloadN X0.here hx rfl (hb hby d_jdk_42_76_0) rfl rfl ?_
    refine XS.aloadN X0.here hx rfl (hb hby d_jdk_42_76_1) rfl rfl ?_
    refine XS.iconst X0.here hx rfl (hb hby d_jdk_42_76_2) ?_
    exact k
  obtain ⟨_, T1, h1, L1, X1, e1, hQ1, st1⟩ := virtC X0 hx hZ (y := (⟨"java/lang/String", "startsWith", "(Ljava/lang/String;I)Z"⟩ : MethodName)) (z := (⟨"java/lang/String", "startsWith", "(Ljava/lang/String;I)Z"⟩ : MethodName)) hown (wq hw 39 rfl) (wq hw 40 rfl) (nf_sel (args := #[]) (mvT hZ (wq hw 37 rfl)) rfl) (wq hw 42 rfl) (wq hw 41 rfl) (by decide) (kc := 0) (ks := 0) (Con.sb (W := 0) (rm_swS2 l hD a b t tp k kp z us O0 E_a F_coder_a F_value_a V_t E_b F_coder_b F_value_b V_tp hz) hZ (wq hw 43 rfl) (wq hw 10 rfl) (by decide) (by decide)) e0 E_a (g := (mkF m 3 #[vr a, vr b] [(.int 0), (.ref b), (.ref a)])) rfl (by rw [hml]; rfl) (argsL := [(.ref b), (.int 0)]) (rest := []) (lenOf pd_5 rfl) rfl (by show 2 * 0 + _ ≤ _; exact Nat.le_of_eq rfl) (hb hby d_jdk_42_76_3) (by decide) (by decide)
  obtain ⟨rfl, Nq1, Hq1⟩ := hQ1
  refine OEnds.st st1 ?_
  replace N0 := Fr.app N0 Nq1
  replace e1 := e1.trans Hq1
  exact OEnds.ret X1 hx hret hlk (by decide) (Or.inl ⟨rfl, by simp, _, rfl⟩) (hb hby d_jdk_42_76_6) (by decide) (by decide) (by rw [e1]; exact ⟨rfl, N0, rfl⟩)
-- jdk/internal/util/Preconditions.checkFromToIndex:(IIILjava/util/function/BiFunction;)I
def Q_chkFT (Z : State) (f : Value) (kk : Nat) (h0 : Heap) (v : Option Value) (h : Heap) (L : List Loc) : Prop := v = some (.int 5) ∧ Fr Z.heap.size L ∧ h = h0
theorem ef_chkFT (m : MethodId) (f : Value) (hr_f : f.category = 1) : entryFrame m #[(.int 5), (.int (Int32.ofNat (kk + 5))), (.int (Int32.ofNat (kk + 5))), f] 4 = mkF m 0 #[vi 5, vi (Int32.ofNat (kk + 5)), vi (Int32.ofNat (kk + 5)), .val f] [] := by first | (simp [entryFrame, mkF, argsToLocals, cat_i, cat_j, cat_r, cat_n, vi, vj, vr, hr_f]; done) | rfl
theorem pn_3 : plainName "jdk/internal/util/Preconditions" = true := by first | (simp [plainName, overriddenIn]; done) | decide +kernel
theorem d_jdk_41_12_0 : decode jdk_41_method_12_code 0 = .ok (.iload_n 0, 1) := by decide +kernel
theorem d_jdk_41_12_1 : decode jdk_41_method_12_code 1 = .ok (.ifCond .lt 13, 3) := by decide +kernel
theorem d_jdk_41_12_4 : decode jdk_41_method_12_code 4 = .ok (.iload_n 0, 1) := by decide +kernel
theorem d_jdk_41_12_5 : decode jdk_41_method_12_code 5 = .ok (.iload_n 1, 1) := by decide +kernel
theorem d_jdk_41_12_6 : decode jdk_41_method_12_code 6 = .ok (.if_icmp .gt 8, 3) := by decide +kernel
theorem d_jdk_41_12_9 : decode jdk_41_method_12_code 9 = .ok (.iload_n 1, 1) := by decide +kernel
theorem d_jdk_41_12_10 : decode jdk_41_method_12_code 10 = .ok (.iload_n 2, 1) := by decide +kernel
theorem d_jdk_41_12_11 : decode jdk_41_method_12_code 11 = .ok (.if_icmp .le 11, 3) := by decide +kernel
theorem d_jdk_41_12_22 : decode jdk_41_method_12_code 22 = .ok (.iload_n 0, 1) := by decide +kernel
theorem d_jdk_41_12_23 : decode jdk_41_method_12_code 23 = .ok (.ireturn, 1) := by decide +kernel
set_option maxRecDepth 65536 in
set_option maxHeartbeats 40000000 in
theorem rm_chkFT (l : Launch) {Z : State} {a0 : Array Value} (hD : Wd Z a0) (f : Value) (kk : Nat) {h0 : Heap} (O0 : Ext Z.heap h0) (hkk : kk ≤ 4) (hf : f.isRef = true) :
    Con l Z (⟨"jdk/internal/util/Preconditions", "checkFromToIndex", "(IIILjava/util/function/BiFunction;)I"⟩ : MethodName) jdk_41_method_12_code 4 (some .int) [] ({ frames := 0, cells := 0, slots := 0, locals := 0 } : Room) #[(.int 5), (.int (Int32.ofNat (kk + 5))), (.int (Int32.ofNat (kk + 5))), f] h0 (Q_chkFT Z f kk h0) := by
  refine Con.walk (plainFor_of_name pn_3) ?_
  intro p e s m below meth c T0 X0 hx hZ hby hml hown hnm hret hlk e0
  obtain ⟨hw, ⟨cz, S_CS, hcz⟩, ⟨sf, S_SF, hsf⟩⟩ := id hD
  have N0 := Fr.nil Z.heap.size
  refine OEnds.cast (ef_chkFT m f (Jvm.Free.XT.cat1 hf)) ?_
  have hlt : ¬ (Int32.ofNat (kk + 5)) < 5 := nlt5 hkk
  refine OEnds.st (S' := T0.setTop (mkF m 23 #[vi 5, vi (Int32.ofNat (kk + 5)), vi (Int32.ofNat (kk + 5)), .val f] [(.int 5)])) (fun _ k => ?_) ?_
  · refine XS.iloadN X0.here hx rfl (hb hby d_jdk_41_12_0) rfl ?_
    refine XS.ifNo X0.here hx rfl (hb hby d_jdk_41_12_1) rfl ((if0 _ _).trans (flt (by decide)).1) ?_
    refine XS.iloadN X0.here hx rfl (hb hby d_jdk_41_12_4) rfl ?_
    refine XS.iloadN X0.here hx rfl (hb hby d_jdk_41_12_5) rfl ?_
    show Steps p.tables e below (T0.setTop (mkF m 6 #[vi 5, vi (Int32.ofNat (kk + 5)), vi (Int32.ofNat (kk + 5)), .val f] [(.int (Int32.ofNat (kk + 5))), (.int 5)])) _
    refine XS.icmpNo X0.here hx rfl (hb hby d_jdk_41_12_6) rfl (flt hlt).2.2.1 ?_
    refine XS.iloadN X0.here hx rfl (hb hby d_jdk_41_12_9) rfl ?_
    refine XS.iloadN X0.here hx rfl (hb hby d_jdk_41_12_10) rfl ?_
    refine XS.icmpYes X0.here hx rfl (pc0 := 11) (pc' := 22) rfl (hb hby d_jdk_41_12_11) rfl (flt Int32.lt_irrefl).2.2.2 (by decide) (by decide) ?_
    show Steps p.tables e below (T0.setTop (mkF m 22 #[vi 5, vi (Int32.ofNat (kk + 5)), vi (Int32.ofNat (kk + 5)), .val f] [])) _
    refine XS.iloadN X0.here hx rfl (hb hby d_jdk_41_12_22) rfl ?_
    exact k
  exact OEnds.ret X0 hx hret hlk rfl (Or.inl ⟨rfl, by simp, _, rfl⟩) (hb hby d_jdk_41_12_23) (by decide) (by decide) (by rw [e0]; exact ⟨rfl, N0, rfl⟩)
-- java/lang/String.checkBoundsBeginEnd:(III)V
def Q_chkBE (Z : State)  (kk : Nat) (h0 : Heap) (v : Option Value) (h : Heap) (L : List Loc) : Prop := v = none ∧ Fr Z.heap.size L ∧ h = h0
theorem ef_chkBE (m : MethodId)  : entryFrame m #[(.int 5), (.int (Int32.ofNat (kk + 5))), (.int (Int32.ofNat (kk + 5)))] 3 = mkF m 0 #[vi 5, vi (Int32.ofNat (kk + 5)), vi (Int32.ofNat (kk + 5))] [] := by first | (simp [entryFrame, mkF, argsToLocals, Value.category, vi, vj, vr]; done) | rfl
theorem d_jdk_42_158_0 : decode jdk_42_method_158_code 0 = .ok (.iload_n 0, 1) := by decide +kernel
theorem d_jdk_42_158_1 : decode jdk_42_method_158_code 1 = .ok (.iload_n 1, 1) := by decide +kernel
theorem d_jdk_42_158_2 : decode jdk_42_method_158_code 2 = .ok (.iload_n 2, 1) := by decide +kernel
theorem d_jdk_42_158_3 : decode jdk_42_method_158_code 3 = .ok (.getstatic 1053, 3) := by decide +kernel
theorem d_jdk_42_158_6 : decode jdk_42_method_158_code 6 = .ok (.invokestatic 1062, 3) := by decide +kernel
theorem pd_6 : parseMethodDescriptor "(IIILjava/util/function/BiFunction;)I" = some ⟨[.int, .int, .int, (.object "java/util/function/BiFunction")], some .int⟩ := by decide +kernel
theorem d_jdk_42_158_9 : decode jdk_42_method_158_code 9 = .ok (.pop, 1) := by decide +kernel
theorem d_jdk_42_158_10 : decode jdk_42_method_158_code 10 = .ok (.return_, 1) := by decide +kernel
set_option maxRecDepth 65536 in
set_option maxHeartbeats 40000000 in
theorem rm_chkBE (l : Launch) {Z : State} {a0 : Array Value} (hD : Wd Z a0)  (kk : Nat) {h0 : Heap} (O0 : Ext Z.heap h0) (hkk : kk ≤ 4) :
    Con l Z (⟨"java/lang/String", "checkBoundsBeginEnd", "(III)V"⟩ : MethodName) jdk_42_method_158_code 3 none [] ({ frames := 1, cells := 0, slots := 0, locals := 15 } : Room) #[(.int 5), (.int (Int32.ofNat (kk + 5))), (.int (Int32.ofNat (kk + 5)))] h0 (Q_chkBE Z  kk h0) := by
  refine Con.walk (plainFor_of_name pn_1) ?_
  intro p e s m below meth c T0 X0 hx hZ hby hml hown hnm hret hlk e0
  obtain ⟨hw, ⟨cz, S_CS, hcz⟩, ⟨sf, S_SF, hsf⟩⟩ := id hD
  have N0 := Fr.nil Z.heap.size
  refine OEnds.cast (ef_chkBE m ) ?_
  refine OEnds.st (S' := T0.setTop (mkF m 3 #[vi 5, vi (Int32.ofNat (kk + 5)), vi (Int32.ofNat (kk + 5))] [(.int (Int32.ofNat (kk + 5))), (.int (Int32.ofNat (kk + 5))), (.int 5)])) (fun _ k => ?_) ?_
  · refine XS.iloadN X0.here hx rfl (hb hby d_jdk_42_158_0) rfl ?_
    refine XS.iloadN X0.here hx rfl (hb hby d_jdk_42_158_1) rfl ?_
    refine XS.iloadN X0.here hx rfl (hb hby d_jdk_42_158_2) rfl ?_
    exact k
  obtain ⟨T1, X1, e1, st1⟩ := getS2 X0 hx hZ hown (host := "") (Or.inl (wq hw 83 rfl)) Via.refl e0 (S_SF.ext O0) (g := (mkF m 3 #[vi 5, vi (Int32.ofNat (kk + 5)), vi (Int32.ofNat (kk + 5))] [(.int (Int32.ofNat (kk + 5))), (.int (Int32.ofNat (kk + 5))), (.int 5)])) rfl (hb hby d_jdk_42_158_3)
  refine OEnds.st st1 ?_
  obtain ⟨_, T2, h2, L2, X2, e2, hQ2, st2⟩ := callC X1 hx hZ hown (wq hw 85 rfl) (wq hw 86 rfl) (wq hw 84 rfl) (wq hw 87 rfl) (by decide) (kc := 0) (ks := 0) (Con.sb (W := 0) (rm_chkFT l hD sf kk O0 hkk hsf) hZ (wq hw 87 rfl) (wq hw 84 rfl) (by decide) (by decide)) e1 (g := (mkF m 6 #[vi 5, vi (Int32.ofNat (kk + 5)), vi (Int32.ofNat (kk + 5))] [sf, (.int (Int32.ofNat (kk + 5))), (.int (Int32.ofNat (kk + 5))), (.int 5)])) rfl (by rw [hml]; rfl) (argsL := [(.int 5), (.int (Int32.ofNat (kk + 5))), (.int (Int32.ofNat (kk + 5))), sf]) (rest := []) (lenOf pd_6 rfl) rfl (by show 2 * 0 + _ ≤ _; exact Nat.le_of_eq rfl) (hb hby d_jdk_42_158_6) (by decide) (by decide)
  obtain ⟨rfl, Nq2, Hq2⟩ := hQ2
  refine OEnds.st st2 ?_
  replace N0 := Fr.app N0 Nq2
  replace e2 := e2.trans Hq2
  refine OEnds.st (S' := T2.setTop (mkF m 10 #[vi 5, vi (Int32.ofNat (kk + 5)), vi (Int32.ofNat (kk + 5))] [])) (fun _ k => ?_) ?_
  · refine XS.pop X2.here hx rfl (hb hby d_jdk_42_158_9) rfl rfl ?_
    exact k
  exact OEnds.retV X2 hx hret hlk (hb hby d_jdk_42_158_10) (by decide) (by decide) (by rw [e2]; exact ⟨rfl, N0, rfl⟩)
-- java/lang/String.isLatin1:()Z
def Q_isLatS (Z : State) (a : Addr) (h0 : Heap) (v : Option Value) (h : Heap) (L : List Loc) : Prop := v = some (.int 1) ∧ Fr Z.heap.size L ∧ h = h0
theorem ef_isLatS (m : MethodId) (a : Addr) : entryFrame m #[(.ref a)] 1 = mkF m 0 #[vr a] [] := by first | (simp [entryFrame, mkF, argsToLocals, Value.category, vi, vj, vr]; done) | rfl
theorem d_jdk_42_154_0 : decode jdk_42_method_154_code 0 = .ok (.getstatic 38, 3) := by decide +kernel
theorem d_jdk_42_154_3 : decode jdk_42_method_154_code 3 = .ok (.ifCond .eq 14, 3) := by decide +kernel
theorem d_jdk_42_154_6 : decode jdk_42_method_154_code 6 = .ok (.aload_n 0, 1) := by decide +kernel
theorem d_jdk_42_154_7 : decode jdk_42_method_154_code 7 = .ok (.getfield 15, 3) := by decide +kernel
theorem d_jdk_42_154_10 : decode jdk_42_method_154_code 10 = .ok (.ifCond .ne 7, 3) := by decide +kernel
theorem d_jdk_42_154_13 : decode jdk_42_method_154_code 13 = .ok (.iconst 1, 1) := by decide +kernel
theorem d_jdk_42_154_14 : decode jdk_42_method_154_code 14 = .ok (.goto 4, 3) := by decide +kernel
theorem d_jdk_42_154_18 : decode jdk_42_method_154_code 18 = .ok (.ireturn, 1) := by decide +kernel
set_option maxRecDepth 65536 in
set_option maxHeartbeats 40000000 in
theorem rm_isLatS (l : Launch) {Z : State} {a0 : Array Value} (hD : Wd Z a0) (a : Addr) {h0 : Heap} (O0 : Ext Z.heap h0) (F_coder_a : Fld Z h0 a "java/lang/String" "coder" "B" (.int 0)) :
    Con l Z (⟨"java/lang/String", "isLatin1", "()Z"⟩ : MethodName) jdk_42_method_154_code 1 (some .boolean) [] ({ frames := 0, cells := 0, slots := 0, locals := 0 } : Room) #[(.ref a)] h0 (Q_isLatS Z a h0) := by
  refine Con.walk (plainFor_of_name pn_1) ?_
  intro p e s m below meth c T0 X0 hx hZ hby hml hown hnm hret hlk e0
  obtain ⟨hw, ⟨cz, S_CS, hcz⟩, ⟨sf, S_SF, hsf⟩⟩ := id hD
  have N0 := Fr.nil Z.heap.size
  refine OEnds.cast (ef_isLatS m a) ?_
  obtain ⟨T1, X1, e1, st1⟩ := getS2 X0 hx hZ hown (host := "") (Or.inl (wq hw 54 rfl)) Via.refl e0 (S_CS.ext O0) (g := (mkF m 0 #[vr a] [])) rfl (hb hby d_jdk_42_154_0)
  refine OEnds.st st1 ?_
  refine OEnds.st (S' := T1.setTop (mkF m 7 #[vr a] [(.ref a)])) (fun _ k => ?_) ?_
  · refine XS.ifNo X1.here hx rfl (hb hby d_jdk_42_154_3) rfl ((if0 _ _).trans (feq hcz).1) ?_
    refine XS.aloadN X1.here hx rfl (hb hby d_jdk_42_154_6) rfl rfl ?_
    exact k
  obtain ⟨T2, X2, e2, st2⟩ := getF X1 hx hZ hown (host := "") (Or.inl (wq hw 28 rfl)) Via.refl e1 F_coder_a (g := (mkF m 7 #[vr a] [(.ref a)])) rfl rfl (hb hby d_jdk_42_154_7)
  refine OEnds.st st2 ?_
  refine OEnds.st (S' := T2.setTop (mkF m 18 #[vr a] [(.int 1)])) (fun _ k => ?_) ?_
  · refine XS.ifNo X2.here hx rfl (hb hby d_jdk_42_154_10) rfl ((if0 _ _).trans (teq (by decide)).2) ?_
    refine XS.iconst X2.here hx rfl (hb hby d_jdk_42_154_13) ?_
    refine XS.goto X2.here hx rfl (pc0 := 14) (pc' := 18) rfl (hb hby d_jdk_42_154_14) (by decide) (by decide) ?_
    exact k
  exact OEnds.ret X2 hx hret hlk (by decide) (Or.inl ⟨rfl, by simp, _, rfl⟩) (hb hby d_jdk_42_154_18) (by decide) (by decide) (by rw [e2]; exact ⟨rfl, N0, rfl⟩)
-- java/lang/Math.min:(II)I
def Q_minSame (Z : State) (x : Int32) (h0 : Heap) (v : Option Value) (h : Heap) (L : List Loc) : Prop := v = some (.int x) ∧ Fr Z.heap.size L ∧ h = h0
theorem ef_minSame (m : MethodId) (x : Int32) : entryFrame m #[(.int x), (.int x)] 2 = mkF m 0 #[vi x, vi x] [] := by first | (simp [entryFrame, mkF, argsToLocals, Value.category, vi, vj, vr]; done) | rfl
theorem d_jdk_29_69_0 : decode jdk_29_method_69_code 0 = .ok (.iload_n 0, 1) := by decide +kernel
theorem d_jdk_29_69_1 : decode jdk_29_method_69_code 1 = .ok (.iload_n 1, 1) := by decide +kernel
theorem d_jdk_29_69_2 : decode jdk_29_method_69_code 2 = .ok (.if_icmp .gt 7, 3) := by decide +kernel
theorem d_jdk_29_69_5 : decode jdk_29_method_69_code 5 = .ok (.iload_n 0, 1) := by decide +kernel
theorem d_jdk_29_69_6 : decode jdk_29_method_69_code 6 = .ok (.goto 4, 3) := by decide +kernel
theorem d_jdk_29_69_10 : decode jdk_29_method_69_code 10 = .ok (.ireturn, 1) := by decide +kernel
set_option maxRecDepth 65536 in
set_option maxHeartbeats 40000000 in
theorem rm_minSame (l : Launch) {Z : State} {a0 : Array Value} (hD : Wd Z a0) (x : Int32) {h0 : Heap} (O0 : Ext Z.heap h0) :
    Con l Z (⟨"java/lang/Math", "min", "(II)I"⟩ : MethodName) jdk_29_method_69_code 2 (some .int) [] ({ frames := 0, cells := 0, slots := 0, locals := 0 } : Room) #[(.int x), (.int x)] h0 (Q_minSame Z x h0) := by
  refine Con.walk (Jvm.Free.JP.mathPlain rfl (by decide +kernel)) ?_
  intro p e s m below meth c T0 X0 hx hZ hby hml hown hnm hret hlk e0
  obtain ⟨hw, ⟨cz, S_CS, hcz⟩, ⟨sf, S_SF, hsf⟩⟩ := id hD
  have N0 := Fr.nil Z.heap.size
  refine OEnds.cast (ef_minSame m x) ?_
  refine OEnds.st (S' := T0.setTop (mkF m 10 #[vi x, vi x] [(.int x)])) (fun _ k => ?_) ?_
  · refine XS.iloadN X0.here hx rfl (hb hby d_jdk_29_69_0) rfl ?_
    refine XS.iloadN X0.here hx rfl (hb hby d_jdk_29_69_1) rfl ?_
    refine XS.icmpNo X0.here hx rfl (hb hby d_jdk_29_69_2) rfl (flt Int32.lt_irrefl).2.2.1 ?_
    refine XS.iloadN X0.here hx rfl (hb hby d_jdk_29_69_5) rfl ?_
    show Steps p.tables e below (T0.setTop (mkF m 6 #[vi x, vi x] [(.int x)])) _
    refine XS.goto X0.here hx rfl (pc0 := 6) (pc' := 10) rfl (hb hby d_jdk_29_69_6) (by decide) (by decide) ?_
    exact k
  exact OEnds.ret X0 hx hret hlk rfl (Or.inl ⟨rfl, by simp, _, rfl⟩) (hb hby d_jdk_29_69_10) (by decide) (by decide) (by rw [e0]; exact ⟨rfl, N0, rfl⟩)
-- java/util/Arrays.checkLength:(II)V
def Q_checkLen (Z : State) (x0 : Int32) (y0 : Int32) (h0 : Heap) (v : Option Value) (h : Heap) (L : List Loc) : Prop := v = none ∧ Fr Z.heap.size L ∧ h = h0
theorem ef_checkLen (m : MethodId) (x0 : Int32) (y0 : Int32) : entryFrame m #[(.int x0), (.int y0)] 2 = mkF m 0 #[vi x0, vi y0] [] := by first | (simp [entryFrame, mkF, argsToLocals, Value.category, vi, vj, vr]; done) | rfl
theorem pn_4 : plainName "java/util/Arrays" = true := by first | (simp [plainName, overriddenIn]; done) | decide +kernel
theorem d_jdk_65_131_0 : decode jdk_65_method_131_code 0 = .ok (.iload_n 1, 1) := by decide +kernel
theorem d_jdk_65_131_1 : decode jdk_65_method_131_code 1 = .ok (.iload_n 0, 1) := by decide +kernel
theorem d_jdk_65_131_2 : decode jdk_65_method_131_code 2 = .ok (.if_icmp .ge 35, 3) := by decide +kernel
theorem d_jdk_65_131_37 : decode jdk_65_method_131_code 37 = .ok (.return_, 1) := by decide +kernel
set_option maxRecDepth 65536 in
set_option maxHeartbeats 40000000 in
theorem rm_checkLen (l : Launch) {Z : State} {a0 : Array Value} (hD : Wd Z a0) (x0 : Int32) (y0 : Int32) {h0 : Heap} (O0 : Ext Z.heap h0) (hge : ¬ y0 < x0) :
    Con l Z (⟨"java/util/Arrays", "checkLength", "(II)V"⟩ : MethodName) jdk_65_method_131_code 2 none [] ({ frames := 0, cells := 0, slots := 0, locals := 0 } : Room) #[(.int x0), (.int y0)] h0 (Q_checkLen Z x0 y0 h0) := by
  refine Con.walk (plainFor_of_name pn_4) ?_
  intro p e s m below meth c T0 X0 hx hZ hby hml hown hnm hret hlk e0
  obtain ⟨hw, ⟨cz, S_CS, hcz⟩, ⟨sf, S_SF, hsf⟩⟩ := id hD
  have N0 := Fr.nil Z.heap.size
  refine OEnds.cast (ef_checkLen m x0 y0) ?_
  refine OEnds.st (S' := T0.setTop (mkF m 37 #[vi x0, vi y0] [])) (fun _ k => ?_) ?_
  · refine XS.iloadN X0.here hx rfl (hb hby d_jdk_65_131_0) rfl ?_
    refine XS.iloadN X0.here hx rfl (hb hby d_jdk_65_131_1) rfl ?_
    refine XS.icmpYes X0.here hx rfl (pc0 := 2) (pc' := 37) rfl (hb hby d_jdk_65_131_2) rfl (flt hge).2.1 (by decide) (by decide) ?_
    exact k
  exact OEnds.retV X0 hx hret hlk (hb hby d_jdk_65_131_37) (by decide) (by decide) (by rw [e0]; exact ⟨rfl, N0, rfl⟩)
-- java/util/Arrays.copyOfRangeByte:([BII)[B
def Q_crB (Z : State) (t : Addr) (k : ClassId) (kk : Nat) (y0 y1 y2 y3 y4 : Int32) (rest : List Value) (h0 : Heap) (v : Option Value) (h : Heap) (L : List Loc) : Prop := ∃ (r : Addr) (kr : ClassId), v = some (.ref r) ∧ Fr Z.heap.size L ∧ Keep h0 h [] ∧ h0.size ≤ r ∧ Arv Z h r kr .byte (Int32.ofNat kk) rest (.int 0)
theorem ef_crB (m : MethodId) (t : Addr) : entryFrame m #[(.ref t), (.int 5), (.int (Int32.ofNat (kk + 5)))] 5 = mkF m 0 #[vr t, vi 5, vi (Int32.ofNat (kk + 5)), .unset, .unset] [] := by first | (simp [entryFrame, mkF, argsToLocals, Value.category, vi, vj, vr]; done) | rfl
theorem d_jdk_65_133_0 : decode jdk_65_method_133_code 0 = .ok (.iload_n 1, 1) := by decide +kernel
theorem d_jdk_65_133_1 : decode jdk_65_method_133_code 1 = .ok (.iload_n 2, 1) := by decide +kernel
theorem d_jdk_65_133_2 : decode jdk_65_method_133_code 2 = .ok (.invokestatic 343, 3) := by decide +kernel
theorem pd_7 : parseMethodDescriptor "(II)V" = some ⟨[.int, .int], none⟩ := by decide +kernel
theorem d_jdk_65_133_5 : decode jdk_65_method_133_code 5 = .ok (.iload_n 2, 1) := by decide +kernel
theorem d_jdk_65_133_6 : decode jdk_65_method_133_code 6 = .ok (.iload_n 1, 1) := by decide +kernel
theorem d_jdk_65_133_7 : decode jdk_65_method_133_code 7 = .ok (.isub, 1) := by decide +kernel
theorem d_jdk_65_133_8 : decode jdk_65_method_133_code 8 = .ok (.istore_n 3, 1) := by decide +kernel
theorem d_jdk_65_133_9 : decode jdk_65_method_133_code 9 = .ok (.iload_n 3, 1) := by decide +kernel
theorem d_jdk_65_133_10 : decode jdk_65_method_133_code 10 = .ok (.newarray .byte, 2) := by decide +kernel
theorem d_jdk_65_133_12 : decode jdk_65_method_133_code 12 = .ok (.astore 4, 2) := by decide +kernel
theorem d_jdk_65_133_14 : decode jdk_65_method_133_code 14 = .ok (.aload_n 0, 1) := by decide +kernel
theorem d_jdk_65_133_15 : decode jdk_65_method_133_code 15 = .ok (.iload_n 1, 1) := by decide +kernel
theorem d_jdk_65_133_16 : decode jdk_65_method_133_code 16 = .ok (.aload 4, 2) := by decide +kernel
theorem d_jdk_65_133_18 : decode jdk_65_method_133_code 18 = .ok (.iconst 0, 1) := by decide +kernel
theorem d_jdk_65_133_19 : decode jdk_65_method_133_code 19 = .ok (.aload_n 0, 1) := by decide +kernel
theorem d_jdk_65_133_20 : decode jdk_65_method_133_code 20 = .ok (.arraylength, 1) := by decide +kernel
theorem d_jdk_65_133_21 : decode jdk_65_method_133_code 21 = .ok (.iload_n 1, 1) := by decide +kernel
theorem d_jdk_65_133_22 : decode jdk_65_method_133_code 22 = .ok (.isub, 1) := by decide +kernel
theorem d_jdk_65_133_23 : decode jdk_65_method_133_code 23 = .ok (.iload_n 3, 1) := by decide +kernel
theorem d_jdk_65_133_24 : decode jdk_65_method_133_code 24 = .ok (.invokestatic 304, 3) := by decide +kernel
theorem pd_8 : parseMethodDescriptor "(II)I" = some ⟨[.int, .int], some .int⟩ := by decide +kernel
theorem d_jdk_65_133_27 : decode jdk_65_method_133_code 27 = .ok (.invokestatic 150, 3) := by decide +kernel
theorem d_jdk_65_133_30 : decode jdk_65_method_133_code 30 = .ok (.aload 4, 2) := by decide +kernel
theorem d_jdk_65_133_32 : decode jdk_65_method_133_code 32 = .ok (.areturn, 1) := by decide +kernel
set_option maxRecDepth 65536 in
set_option maxHeartbeats 40000000 in
theorem rm_crB (l : Launch) {Z : State} {a0 : Array Value} (hD : Wd Z a0) (t : Addr) (k : ClassId) (kk : Nat) (y0 y1 y2 y3 y4 : Int32) (rest : List Value) {h0 : Heap} (O0 : Ext Z.heap h0) (V_t : Arv Z h0 t k .byte (Int32.ofNat (kk + 5)) ((.int y0) :: (.int y1) :: (.int y2) :: (.int y3) :: (.int y4) :: rest) (.int 0)) (hr : rest.length = kk) (hkk : kk ≤ 4) :
    Con l Z (⟨"java/util/Arrays", "copyOfRangeByte", "([BII)[B"⟩ : MethodName) jdk_65_method_133_code 5 (some (.array .byte)) [] ({ frames := 1, cells := 1, slots := 4, locals := 18 } : Room) #[(.ref t), (.int 5), (.int (Int32.ofNat (kk + 5)))] h0 (Q_crB Z t k kk y0 y1 y2 y3 y4 rest h0) := by
  refine Con.walk (plainFor_of_name pn_4) ?_
  intro p e s m below meth c T0 X0 hx hZ hby hml hown hnm hret hlk e0
  obtain ⟨hw, ⟨cz, S_CS, hcz⟩, ⟨sf, S_SF, hsf⟩⟩ := id hD
  have N0 := Fr.nil Z.heap.size
  have K0 : Keep h0 h0 [] := Keep.refl _ _
  refine OEnds.cast (ef_crB m t) ?_
  have hk31 : kk < 2 ^ 31 := by omega
  have hn31 : kk + 5 < 2 ^ 31 := by omega
  refine OEnds.st (S' := T0.setTop (mkF m 2 #[vr t, vi 5, vi (Int32.ofNat (kk + 5)), .unset, .unset] [(.int (Int32.ofNat (kk + 5))), (.int 5)])) (fun _ k => ?_) ?_
  · refine XS.iloadN X0.here hx rfl (hb hby d_jdk_65_133_0) rfl ?_
    refine XS.iloadN X0.here hx rfl (hb hby d_jdk_65_133_1) rfl ?_
    exact k
  obtain ⟨_, T1, h1, L1, X1, e1, hQ1, st1⟩ := callC X0 hx hZ hown (wq hw 115 rfl) (wq hw 116 rfl) (wq hw 110 rfl) (wq hw 117 rfl) (by decide) (kc := 0) (ks := 0) (Con.sb (W := 0) (rm_checkLen l hD (5 : Int32) (Int32.ofNat (kk + 5)) O0 (nlt5 hkk)) hZ (wq hw 117 rfl) (wq hw 110 rfl) (by decide) (by decide)) e0 (g := (mkF m 2 #[vr t, vi 5, vi (Int32.ofNat (kk + 5)), .unset, .unset] [(.int (Int32.ofNat (kk + 5))), (.int 5)])) rfl (by rw [hml]; rfl) (argsL := [(.int 5), (.int (Int32.ofNat (kk + 5)))]) (rest := []) (lenOf pd_7 rfl) rfl (by show 2 * 0 + _ ≤ _; exact Nat.le_of_eq rfl) (hb hby d_jdk_65_133_2) (by decide) (by decide)
  obtain ⟨rfl, Nq1, Hq1⟩ := hQ1
  refine OEnds.st st1 ?_
  replace N0 := Fr.app N0 Nq1
  replace e1 := e1.trans Hq1
  refine OEnds.st (S' := T1.setTop (mkF m 8 #[vr t, vi 5, vi (Int32.ofNat (kk + 5)), .unset, .unset] [(.int ((Int32.ofNat (kk + 5)) - (5 : Int32)))])) (fun _ k => ?_) ?_
  · refine XS.iloadN X1.here hx rfl (hb hby d_jdk_65_133_5) rfl ?_
    refine XS.iloadN X1.here hx rfl (hb hby d_jdk_65_133_6) rfl ?_
    refine XS.isub X1.here hx rfl (hb hby d_jdk_65_133_7) rfl ?_
    exact k
  rw [sub5 kk]
  refine OEnds.st (S' := T1.setTop (mkF m 10 #[vr t, vi 5, vi (Int32.ofNat (kk + 5)), vi (Int32.ofNat kk), .unset] [(.int (Int32.ofNat kk))])) (fun _ k => ?_) ?_
  · refine XS.istoreN X1.here hx rfl (hb hby d_jdk_65_133_8) rfl (l' := #[vr t, vi 5, vi (Int32.ofNat (kk + 5)), vi (Int32.ofNat kk), .unset]) rfl ?_
    refine XS.iloadN X1.here hx rfl (hb hby d_jdk_65_133_9) rfl ?_
    exact k
  obtain ⟨T2, h2, k2, X2, e2, E2, A2, st2⟩ := newP X1 hx hZ (wq hw 22 rfl) e1 (g := (mkF m 10 #[vr t, vi 5, vi (Int32.ofNat (kk + 5)), vi (Int32.ofNat kk), .unset] [(.int (Int32.ofNat kk))])) rfl (hb hby d_jdk_65_133_10) rfl (ofn_nneg hk31) (cap := 4) (by rw [ofn_clamp hk31]; exact hkk) (by decide) (by decide) (by decide)
  obtain ⟨b2, g2⟩ : ∃ z, z = h0.size := ⟨_, rfl⟩
  rw [← g2] at A2 st2
  refine OEnds.st st2 ?_
  have ne_t_b2 : t ≠ b2 := Nat.ne_of_lt (Nat.lt_of_lt_of_le V_t.lt (Nat.le_of_eq g2.symm))
  have ge_b2 : Z.heap.size ≤ b2 := Nat.le_trans O0.1 (Nat.le_of_eq g2.symm)
  have sz_b2 : h0.size ≤ b2 := Nat.le_trans K0.1 (Nat.le_of_eq g2.symm)
  replace V_t := V_t.ext E2
  replace O0 : Ext Z.heap h2 := ext_trans O0 E2
  replace K0 : Keep h0 h2 [] := K0.ext E2
  have V_b2 : Arv Z h2 b2 k2 .byte (Int32.ofNat kk) (List.replicate kk (.int 0)) (.int 0) := (Arv.new A2 (ofn_nneg hk31)).pad (pad_rep [] ((.int 0) : Value) kk)
  refine OEnds.st (S' := T2.setTop (mkF m 20 #[vr t, vi 5, vi (Int32.ofNat (kk + 5)), vi (Int32.ofNat kk), vr b2] [(.ref t), (.int 0), (.ref b2), (.int 5), (.ref t)])) (fun _ k => ?_) ?_
  · refine XS.astore X2.here hx rfl (hb hby d_jdk_65_133_12) rfl rfl (l' := #[vr t, vi 5, vi (Int32.ofNat (kk + 5)), vi (Int32.ofNat kk), vr b2]) rfl ?_
    refine XS.aloadN X2.here hx rfl (hb hby d_jdk_65_133_14) rfl rfl ?_
    refine XS.iloadN X2.here hx rfl (hb hby d_jdk_65_133_15) rfl ?_
    refine XS.aload X2.here hx rfl (hb hby d_jdk_65_133_16) rfl rfl ?_
    show Steps p.tables e below (T2.setTop (mkF m 18 #[vr t, vi 5, vi (Int32.ofNat (kk + 5)), vi (Int32.ofNat kk), vr b2] [(.ref b2), (.int 5), (.ref t)])) _
    refine XS.iconst X2.here hx rfl (hb hby d_jdk_65_133_18) ?_
    refine XS.aloadN X2.here hx rfl (hb hby d_jdk_65_133_19) rfl rfl ?_
    exact k
  obtain ⟨cl_t_3, Ar_t_3, q_t_3, S_t_3, N_t_3, H_t_3, G_t_3⟩ := id V_t
  refine OEnds.st (S' := T2.setTop (mkF m 21 #[vr t, vi 5, vi (Int32.ofNat (kk + 5)), vi (Int32.ofNat kk), vr b2] [(.int (Int32.ofNat (kk + 5))), (.int 0), (.ref b2), (.int 5), (.ref t)])) (fun tg kq9 => X2.arraylength hx (by rw [e2]; exact Ar_t_3.1) (State.isArrayOf_alike hZ.alike Ar_t_3.2.1) (g := (mkF m 20 #[vr t, vi 5, vi (Int32.ofNat (kk + 5)), vi (Int32.ofNat kk), vr b2] [(.ref t), (.int 0), (.ref b2), (.int 5), (.ref t)])) rfl rfl (hb hby d_jdk_65_133_20) tg (by rw [len_of S_t_3 N_t_3]; exact kq9)) ?_
  refine OEnds.st (S' := T2.setTop (mkF m 23 #[vr t, vi 5, vi (Int32.ofNat (kk + 5)), vi (Int32.ofNat kk), vr b2] [(.int ((Int32.ofNat (kk + 5)) - (5 : Int32))), (.int 0), (.ref b2), (.int 5), (.ref t)])) (fun _ k => ?_) ?_
  · refine XS.iloadN X2.here hx rfl (hb hby d_jdk_65_133_21) rfl ?_
    refine XS.isub X2.here hx rfl (hb hby d_jdk_65_133_22) rfl ?_
    exact k
  rw [sub5 kk]
  refine OEnds.st (S' := T2.setTop (mkF m 24 #[vr t, vi 5, vi (Int32.ofNat (kk + 5)), vi (Int32.ofNat kk), vr b2] [(.int (Int32.ofNat kk)), (.int (Int32.ofNat kk)), (.int 0), (.ref b2), (.int 5), (.ref t)])) (fun _ k => ?_) ?_
  · refine XS.iloadN X2.here hx rfl (hb hby d_jdk_65_133_23) rfl ?_
    exact k
  obtain ⟨_, T4, h4, L4, X4, e4, hQ4, st4⟩ := callC X2 hx hZ hown (wq hw 118 rfl) (wq hw 119 rfl) (wq hw 120 rfl) (wq hw 121 rfl) (by decide) (kc := 0) (ks := 0) (Con.sb (W := 4) (rm_minSame l hD (Int32.ofNat kk) O0) hZ (wq hw 121 rfl) (wq hw 120 rfl) (by decide) (by decide)) e2 (g := (mkF m 24 #[vr t, vi 5, vi (Int32.ofNat (kk + 5)), vi (Int32.ofNat kk), vr b2] [(.int (Int32.ofNat kk)), (.int (Int32.ofNat kk)), (.int 0), (.ref b2), (.int 5), (.ref t)])) rfl (by rw [hml]; rfl) (argsL := [(.int (Int32.ofNat kk)), (.int (Int32.ofNat kk))]) (rest := [(.int 0), (.ref b2), (.int 5), (.ref t)]) (lenOf pd_8 rfl) rfl (by show 2 * 0 + _ ≤ _; exact Nat.le_of_eq rfl) (hb hby d_jdk_65_133_24) (by decide) (by decide)
  obtain ⟨rfl, Nq4, Hq4⟩ := hQ4
  refine OEnds.st st4 ?_
  replace N0 := Fr.app N0 Nq4
  replace e4 := e4.trans Hq4
  obtain ⟨T5, h5, L5, X5, e5, Nw5, Kq5, V5, st5⟩ := cpA X4 hx hZ hown (wq hw 122 rfl) (wq hw 125 rfl) (wq hw 123 rfl) (wq hw 124 rfl) e4 V_t V_b2 (us := _) (Or.inl ⟨rfl, rfl⟩) (by decide) (by decide) (ofn_nneg hk31) (by rw [ofn_clamp hk31, ofn_clamp hn31]; exact Nat.le_of_eq (Nat.add_comm _ _)) (Nat.le_of_eq (Nat.zero_add _)) rfl (by rw [ofn_clamp hk31, List.length_replicate]; exact Nat.le_of_eq (Nat.zero_add _)) N0 ge_b2 (g := (mkF m 27 #[vr t, vi 5, vi (Int32.ofNat (kk + 5)), vi (Int32.ofNat kk), vr b2] [(.int (Int32.ofNat kk)), (.int 0), (.ref b2), (.int 5), (.ref t)])) rfl (by rw [hml]; rfl) rfl (hb hby d_jdk_65_133_27) (by decide) (W := 0) (by show 2 * 0 + _ ≤ _; exact Nat.le_of_eq rfl) (by decide)
  replace N0 := Nw5
  refine OEnds.st st5 ?_
  replace V_t := V_t.keep Kq5 (ninS ne_t_b2 nin0)
  replace O0 : Ext Z.heap h5 := ext_keep O0 Kq5 (allS ge_b2 all0)
  replace K0 : Keep h0 h5 [] := K0.trans Kq5 (allS (Or.inr sz_b2) all0)
  have V_b2_5 : Arv Z h5 b2 k2 .byte (Int32.ofNat kk) rest (.int 0) := by rw [← (cr5 hr hk31)]; exact V5
  refine OEnds.st (S' := T5.setTop (mkF m 32 #[vr t, vi 5, vi (Int32.ofNat (kk + 5)), vi (Int32.ofNat kk), vr b2] [(.ref b2)])) (fun _ k => ?_) ?_
  · refine XS.aload X5.here hx rfl (hb hby d_jdk_65_133_30) rfl rfl ?_
    exact k
  exact OEnds.ret X5 hx hret hlk rfl (Or.inr (Or.inr (Or.inr (Or.inr ⟨rfl, rfl, rfl⟩)))) (hb hby d_jdk_65_133_32) (by decide) (by decide) (by rw [e5]; exact ⟨b2, _, rfl, N0, K0, sz_b2, V_b2_5⟩)
-- java/util/Arrays.copyOfRange:([BII)[B
def Q_cor (Z : State) (t : Addr) (k : ClassId) (kk : Nat) (y0 y1 y2 y3 y4 : Int32) (rest : List Value) (h0 : Heap) (v : Option Value) (h : Heap) (L : List Loc) : Prop := ∃ (r : Addr) (kr : ClassId), v = some (.ref r) ∧ Fr Z.heap.size L ∧ Keep h0 h [] ∧ h0.size ≤ r ∧ Arv Z h r kr .byte (Int32.ofNat kk) rest (.int 0)
theorem ef_cor (m : MethodId) (t : Addr) : entryFrame m #[(.ref t), (.int 5), (.int (Int32.ofNat (kk + 5)))] 3 = mkF m 0 #[vr t, vi 5, vi (Int32.ofNat (kk + 5))] [] := by first | (simp [entryFrame, mkF, argsToLocals, Value.category, vi, vj, vr]; done) | rfl
theorem d_jdk_65_132_0 : decode jdk_65_method_132_code 0 = .ok (.iload_n 1, 1) := by decide +kernel
theorem d_jdk_65_132_1 : decode jdk_65_method_132_code 1 = .ok (.ifCond .ne 9, 3) := by decide +kernel
theorem d_jdk_65_132_10 : decode jdk_65_method_132_code 10 = .ok (.aload_n 0, 1) := by decide +kernel
theorem d_jdk_65_132_11 : decode jdk_65_method_132_code 11 = .ok (.iload_n 1, 1) := by decide +kernel
theorem d_jdk_65_132_12 : decode jdk_65_method_132_code 12 = .ok (.iload_n 2, 1) := by decide +kernel
theorem d_jdk_65_132_13 : decode jdk_65_method_132_code 13 = .ok (.invokestatic 339, 3) := by decide +kernel
theorem pd_9 : parseMethodDescriptor "([BII)[B" = some ⟨[(.array .byte), .int, .int], some (.array .byte)⟩ := by decide +kernel
theorem d_jdk_65_132_16 : decode jdk_65_method_132_code 16 = .ok (.areturn, 1) := by decide +kernel
set_option maxRecDepth 65536 in
set_option maxHeartbeats 40000000 in
theorem rm_cor (l : Launch) {Z : State} {a0 : Array Value} (hD : Wd Z a0) (t : Addr) (k : ClassId) (kk : Nat) (y0 y1 y2 y3 y4 : Int32) (rest : List Value) {h0 : Heap} (O0 : Ext Z.heap h0) (V_t : Arv Z h0 t k .byte (Int32.ofNat (kk + 5)) ((.int y0) :: (.int y1) :: (.int y2) :: (.int y3) :: (.int y4) :: rest) (.int 0)) (hr : rest.length = kk) (hkk : kk ≤ 4) :
    Con l Z (⟨"java/util/Arrays", "copyOfRange", "([BII)[B"⟩ : MethodName) jdk_65_method_132_code 3 (some (.array .byte)) [] ({ frames := 2, cells := 1, slots := 4, locals := 34 } : Room) #[(.ref t), (.int 5), (.int (Int32.ofNat (kk + 5)))] h0 (Q_cor Z t k kk y0 y1 y2 y3 y4 rest h0) := by
  refine Con.walk (plainFor_of_name pn_4) ?_
  intro p e s m below meth c T0 X0 hx hZ hby hml hown hnm hret hlk e0
  obtain ⟨hw, ⟨cz, S_CS, hcz⟩, ⟨sf, S_SF, hsf⟩⟩ := id hD
  have N0 := Fr.nil Z.heap.size
  have K0 : Keep h0 h0 [] := Keep.refl _ _
  refine OEnds.cast (ef_cor m t) ?_
  refine OEnds.st (S' := T0.setTop (mkF m 13 #[vr t, vi 5, vi (Int32.ofNat (kk + 5))] [(.int (Int32.ofNat (kk + 5))), (.int 5), (.ref t)])) (fun _ k => ?_) ?_
  · refine XS.iloadN X0.here hx rfl (hb hby d_jdk_65_132_0) rfl ?_
    refine XS.ifYes X0.here hx rfl (pc0 := 1) (pc' := 10) rfl (hb hby d_jdk_65_132_1) rfl ((if0 _ _).trans (feq (by decide)).2) (by decide) (by decide) ?_
    refine XS.aloadN X0.here hx rfl (hb hby d_jdk_65_132_10) rfl rfl ?_
    refine XS.iloadN X0.here hx rfl (hb hby d_jdk_65_132_11) rfl ?_
    show Steps p.tables e below (T0.setTop (mkF m 12 #[vr t, vi 5, vi (Int32.ofNat (kk + 5))] [(.int 5), (.ref t)])) _
    refine XS.iloadN X0.here hx rfl (hb hby d_jdk_65_132_12) rfl ?_
    exact k
  obtain ⟨_, T1, h1, L1, X1, e1, hQ1, st1⟩ := callC X0 hx hZ hown (wq hw 112 rfl) (wq hw 113 rfl) (wq hw 110 rfl) (wq hw 114 rfl) (by decide) (kc := 1) (ks := 4) (Con.sb (W := 0) (rm_crB l hD t k kk y0 y1 y2 y3 y4 rest O0 V_t hr hkk) hZ (wq hw 114 rfl) (wq hw 110 rfl) (by decide) (by decide)) e0 (g := (mkF m 13 #[vr t, vi 5, vi (Int32.ofNat (kk + 5))] [(.int (Int32.ofNat (kk + 5))), (.int 5), (.ref t)])) rfl (by rw [hml]; rfl) (argsL := [(.ref t), (.int 5), (.int (Int32.ofNat (kk + 5)))]) (rest := []) (lenOf pd_9 rfl) rfl (by show 2 * 0 + _ ≤ _; exact Nat.le_of_eq rfl) (hb hby d_jdk_65_132_13) (by decide) (by decide)
  obtain ⟨r1, kr1, rfl, Nq1, Kq1, szq1, V1⟩ := hQ1
  refine OEnds.st st1 ?_
  replace N0 := Fr.app N0 Nq1
  have ne_t_r1 : t ≠ r1 := Nat.ne_of_lt (Nat.lt_of_lt_of_le V_t.lt szq1)
  have ge_r1 : Z.heap.size ≤ r1 := Nat.le_trans O0.1 szq1
  have sz_r1 : h0.size ≤ r1 := Nat.le_trans K0.1 szq1
  replace V_t := V_t.keep Kq1 nin0
  replace O0 : Ext Z.heap h1 := ext_keep O0 Kq1 all0
  replace K0 : Keep h0 h1 [] := K0.trans Kq1 all0
  exact OEnds.ret X1 hx hret hlk rfl (Or.inr (Or.inr (Or.inr (Or.inr ⟨rfl, rfl, rfl⟩)))) (hb hby d_jdk_65_132_16) (by decide) (by decide) (by rw [e1]; exact ⟨r1, kr1, rfl, N0, K0, sz_r1, V1⟩)
-- java/lang/StringLatin1.newString:([BII)Ljava/lang/String;
def Q_newStr (Z : State) (t : Addr) (k : ClassId) (kk : Nat) (y0 y1 y2 y3 y4 : Int32) (rest : List Value) (h0 : Heap) (v : Option Value) (h : Heap) (L : List Loc) : Prop := ∃ (a : Addr), v = some (.ref a) ∧ Fr Z.heap.size L ∧ Keep h0 h [] ∧ Exa Z h a "java/lang/String" ∧ Fld Z h a "java/lang/String" "coder" "B" (.int 0) ∧ ∃ (t : Addr) (kb : ClassId), Fld Z h a "java/lang/String" "value" "[B" (.ref t) ∧ Arv Z h t kb .byte (Int32.ofNat kk) rest (.int 0)
theorem ef_newStr (m : MethodId) (t : Addr) : entryFrame m #[(.ref t), (.int 5), (.int (Int32.ofNat kk))] 3 = mkF m 0 #[vr t, vi 5, vi (Int32.ofNat kk)] [] := by first | (simp [entryFrame, mkF, argsToLocals, Value.category, vi, vj, vr]; done) | rfl
theorem pn_5 : plainName "java/lang/StringLatin1" = true := by first | (simp [plainName, overriddenIn]; done) | decide +kernel
theorem d_jdk_43_47_0 : decode jdk_43_method_47_code 0 = .ok (.iload_n 2, 1) := by decide +kernel
theorem d_jdk_43_47_1 : decode jdk_43_method_47_code 1 = .ok (.ifCond .ne 6, 3) := by decide +kernel
theorem d_jdk_43_47_4 : decode jdk_43_method_47_code 4 = .ok (.ldc 151, 2) := by decide +kernel
theorem d_jdk_43_47_6 : decode jdk_43_method_47_code 6 = .ok (.areturn, 1) := by decide +kernel
theorem d_jdk_43_47_7 : decode jdk_43_method_47_code 7 = .ok (.new 1, 3) := by decide +kernel
theorem d_jdk_43_47_10 : decode jdk_43_method_47_code 10 = .ok (.dup, 1) := by decide +kernel
theorem d_jdk_43_47_11 : decode jdk_43_method_47_code 11 = .ok (.aload_n 0, 1) := by decide +kernel
theorem d_jdk_43_47_12 : decode jdk_43_method_47_code 12 = .ok (.iload_n 1, 1) := by decide +kernel
theorem d_jdk_43_47_13 : decode jdk_43_method_47_code 13 = .ok (.iload_n 1, 1) := by decide +kernel
theorem d_jdk_43_47_14 : decode jdk_43_method_47_code 14 = .ok (.iload_n 2, 1) := by decide +kernel
theorem d_jdk_43_47_15 : decode jdk_43_method_47_code 15 = .ok (.iadd, 1) := by decide +kernel
theorem d_jdk_43_47_16 : decode jdk_43_method_47_code 16 = .ok (.invokestatic 232, 3) := by decide +kernel
theorem d_jdk_43_47_19 : decode jdk_43_method_47_code 19 = .ok (.iconst 0, 1) := by decide +kernel
theorem d_jdk_43_47_20 : decode jdk_43_method_47_code 20 = .ok (.invokespecial 112, 3) := by decide +kernel
theorem pd_10 : parseMethodDescriptor "([BB)V" = some ⟨[(.array .byte), .byte], none⟩ := by decide +kernel
theorem d_jdk_43_47_23 : decode jdk_43_method_47_code 23 = .ok (.areturn, 1) := by decide +kernel
set_option maxRecDepth 65536 in
set_option maxHeartbeats 40000000 in
theorem rm_newStr (l : Launch) {Z : State} {a0 : Array Value} (hD : Wd Z a0) (t : Addr) (k : ClassId) (kk : Nat) (y0 y1 y2 y3 y4 : Int32) (rest : List Value) {h0 : Heap} (O0 : Ext Z.heap h0) (V_t : Arv Z h0 t k .byte (Int32.ofNat (kk + 5)) ((.int y0) :: (.int y1) :: (.int y2) :: (.int y3) :: (.int y4) :: rest) (.int 0)) (hr : rest.length = kk) (hkk : kk ≤ 4) :
    ConH l Z EL (⟨"java/lang/StringLatin1", "newString", "([BII)Ljava/lang/String;"⟩ : MethodName) jdk_43_method_47_code 3 (some (.object "java/lang/String")) [] ({ frames := 3, cells := 2, slots := 8, locals := 50 } : Room) #[(.ref t), (.int 5), (.int (Int32.ofNat kk))] h0 [] (Q_newStr Z t k kk y0 y1 y2 y3 y4 rest h0) := by
  refine ConH.walk (plainFor_of_name pn_5) ?_
  intro p e s vm0 k0 m below meth c T0 X0 hS0 hk0 hx hZ hby hml hown hnm hret hlk e0 A0 hss
  obtain ⟨hw, ⟨cz, S_CS, hcz⟩, ⟨sf, S_SF, hsf⟩⟩ := id hD
  have N0 := Fr.nil Z.heap.size
  have K0 : Keep h0 h0 [] := Keep.refl _ _
  have hEL : EW Z a0 EL := el_of hw
  have hsa : ∀ a ∈ Bundle.stringAtoms, a.before a0 Z = true := fun d hd => hw d (words_sa d hd)
  refine OEndsH.cast (ef_newStr m t) ?_
  refine OEndsH.st (S' := T0.setTop (mkF m 1 #[vr t, vi 5, vi (Int32.ofNat kk)] [(.int (Int32.ofNat kk))])) (fun _ k => ?_) ?_
  · refine XS.iloadN X0.here hx rfl (hb hby d_jdk_43_47_0) rfl ?_
    exact k
  rcases Classical.em ((Int32.ofNat kk) = (0 : Int32)) with q0 | q0
  · have hkz : kk = 0 := ofn0 hkk q0
    have hr0 : rest = [] := List.length_eq_zero_iff.mp (hr.trans hkz)
    refine OEndsH.st (S' := T0.setTop (mkF m 4 #[vr t, vi 5, vi (Int32.ofNat kk)] [])) (fun _ k => ?_) ?_
    · refine XS.ifNo X0.here hx rfl (hb hby d_jdk_43_47_1) rfl ((if0 _ _).trans (teq q0).2) ?_
      exact k
    obtain ⟨b1, T1, h1, k11, t1, kb1, X1, e1, E1, hS1, hk1, hZ1, hown1, Es1, Fc1, Fv1, V1, -, -, Aq1, -, nes1, st1⟩ := ldcCH X0 hx hZ hown (wq hw 97 rfl) hsa e0 hS0 hk0 hEL (List.mem_of_getElem? (i := 2) rfl) A0.1 (vs := []) (z := (0 : Int32)) ⟨by decide, by decide⟩ (by decide) rfl (g := (mkF m 4 #[vr t, vi 5, vi (Int32.ofNat kk)] [])) rfl (hb hby d_jdk_43_47_4) (n := 0) (by decide) (by decide) (by decide) (by decide)
    replace hZ1 : Z.Warmed39 T1.vm := hZ1
    replace hown1 : T1.vm.findClass "java/lang/StringLatin1" = some m.cls := hown1
    replace A0 : CHr Z EL s.vm s.heap T1.vm h1 := A0.trans Aq1
    refine OEndsH.st st1 ?_
    replace V_t := V_t.ext E1
    replace O0 : Ext Z.heap h1 := ext_trans O0 E1
    replace K0 : Keep h0 h1 [] := K0.ext E1
    exact OEndsH.ret X1 hx hZ1 hEL e1 hS1 hk1 A0 hret hlk rfl (Or.inr (Or.inr (Or.inr (Or.inr ⟨rfl, rfl, rfl⟩)))) (hb hby d_jdk_43_47_6) (by decide) (by decide) ⟨b1, rfl, N0, K0, Es1, Fc1, t1, _, Fv1, by rw [hr0, hkz]; exact V1⟩
  · refine OEndsH.st (S' := T0.setTop (mkF m 7 #[vr t, vi 5, vi (Int32.ofNat kk)] [])) (fun _ k => ?_) ?_
    · refine XS.ifYes X0.here hx rfl (pc0 := 1) (pc' := 7) rfl (hb hby d_jdk_43_47_1) rfl ((if0 _ _).trans (feq q0).2) (by decide) (by decide) ?_
      exact k
    obtain ⟨T1, h1, X1, e1, E1, A1, D1, U1, st1⟩ := newO X0 hx hZ hown (wq hw 107 rfl) (wq hw 9 rfl) (wq hw 10 rfl) e0 (g := (mkF m 7 #[vr t, vi 5, vi (Int32.ofNat kk)] [])) rfl (hb hby d_jdk_43_47_7) (by decide) (by decide)
    obtain ⟨b1, g1⟩ : ∃ z, z = h0.size := ⟨_, rfl⟩
    rw [← g1] at A1 D1 U1 st1
    refine OEndsH.st st1 ?_
    have ne_t_b1 : t ≠ b1 := Nat.ne_of_lt (Nat.lt_of_lt_of_le V_t.lt (Nat.le_of_eq g1.symm))
    have ge_b1 : Z.heap.size ≤ b1 := Nat.le_trans O0.1 (Nat.le_of_eq g1.symm)
    have sz_b1 : h0.size ≤ b1 := Nat.le_trans K0.1 (Nat.le_of_eq g1.symm)
    have S_b1 : Safe Z EL vm0 h0 b1 := Safe.new (Nat.le_of_eq g1.symm)
    replace V_t := V_t.ext E1
    have S_b1' : Safe Z EL vm0 h1 b1 := Safe.ext E1 A0.1 S_b1
    have A' : CHr Z EL s.vm s.heap vm0 h1 := A0.trans (CHr.ext E1 A0.1)
    replace S_b1 := S_b1'
    replace A0 := A'
    replace hk0 := Nat.le_trans hk0 E1.1
    replace O0 : Ext Z.heap h1 := ext_trans O0 E1
    replace K0 : Keep h0 h1 [] := K0.ext E1
    have F_value_b1 : Fld Z h1 b1 "java/lang/String" "value" "[B" .null := D1 (Or.inr (wq hw 23 rfl)) (ty := (.array .byte)) (by decide)
    have F_coder_b1 : Fld Z h1 b1 "java/lang/String" "coder" "B" (.int 0) := D1 (Or.inr (wq hw 24 rfl)) (ty := .byte) (by decide)
    refine OEndsH.st (S' := T1.setTop (mkF m 16 #[vr t, vi 5, vi (Int32.ofNat kk)] [(.int ((5 : Int32) + (Int32.ofNat kk))), (.int 5), (.ref t), (.ref b1), (.ref b1)])) (fun _ k => ?_) ?_
    · refine XS.dup X1.here hx rfl (hb hby d_jdk_43_47_10) rfl rfl ?_
      refine XS.aloadN X1.here hx rfl (hb hby d_jdk_43_47_11) rfl rfl ?_
      refine XS.iloadN X1.here hx rfl (hb hby d_jdk_43_47_12) rfl ?_
      refine XS.iloadN X1.here hx rfl (hb hby d_jdk_43_47_13) rfl ?_
      show Steps p.tables e below (T1.setTop (mkF m 14 #[vr t, vi 5, vi (Int32.ofNat kk)] [(.int 5), (.int 5), (.ref t), (.ref b1), (.ref b1)])) _
      refine XS.iloadN X1.here hx rfl (hb hby d_jdk_43_47_14) rfl ?_
      refine XS.iadd X1.here hx rfl (hb hby d_jdk_43_47_15) rfl ?_
      exact k
    rw [add5 kk]
    obtain ⟨_, T2, h2, L2, X2, e2, hQ2, st2⟩ := callC X1 hx hZ hown (wq hw 108 rfl) (wq hw 109 rfl) (wq hw 110 rfl) (wq hw 111 rfl) (by decide) (kc := 1) (ks := 4) (Con.sb (W := 2) (rm_cor l hD t k kk y0 y1 y2 y3 y4 rest O0 V_t hr hkk) hZ (wq hw 111 rfl) (wq hw 110 rfl) (by decide) (by decide)) e1 (g := (mkF m 16 #[vr t, vi 5, vi (Int32.ofNat kk)] [(.int (Int32.ofNat (kk + 5))), (.int 5), (.ref t), (.ref b1), (.ref b1)])) rfl (by rw [hml]; rfl) (argsL := [(.ref t), (.int 5), (.int (Int32.ofNat (kk + 5)))]) (rest := [(.ref b1), (.ref b1)]) (lenOf pd_9 rfl) rfl (by show 2 * 0 + _ ≤ _; exact Nat.le_of_eq rfl) (hb hby d_jdk_43_47_16) (by decide) (by decide)
    obtain ⟨r2, kr2, rfl, Nq2, Kq2, szq2, V2⟩ := hQ2
    refine OEndsH.st st2 ?_
    replace N0 := Fr.app N0 Nq2
    have ne_b1_r2 : b1 ≠ r2 := Nat.ne_of_lt (Nat.lt_of_lt_of_le A1.lt szq2)
    have ne_t_r2 : t ≠ r2 := Nat.ne_of_lt (Nat.lt_of_lt_of_le V_t.lt szq2)
    have ge_r2 : Z.heap.size ≤ r2 := Nat.le_trans O0.1 szq2
    have S_r2 : Safe Z EL vm0 h1 r2 := Safe.new szq2
    have sz_r2 : h0.size ≤ r2 := Nat.le_trans K0.1 szq2
    replace V_t := V_t.keep Kq2 nin0
    replace A1 := A1.keep Kq2
    replace F_value_b1 := F_value_b1.keep Kq2 nin0
    replace F_coder_b1 := F_coder_b1.keep Kq2 nin0
    have S_b1' : Safe Z EL vm0 h2 b1 := Safe.keep Kq2 sf0 A0.1 S_b1
    have S_r2' : Safe Z EL vm0 h2 r2 := Safe.keep Kq2 sf0 A0.1 S_r2
    have A' : CHr Z EL s.vm s.heap vm0 h2 := A0.trans (CHr.keep Kq2 sf0 A0.1)
    replace S_b1 := S_b1'
    replace S_r2 := S_r2'
    replace A0 := A'
    replace hk0 := Nat.le_trans hk0 Kq2.1
    replace O0 : Ext Z.heap h2 := ext_keep O0 Kq2 all0
    replace K0 : Keep h0 h2 [] := K0.trans Kq2 all0
    refine OEndsH.st (S' := T2.setTop (mkF m 20 #[vr t, vi 5, vi (Int32.ofNat kk)] [(.int 0), (.ref r2), (.ref b1), (.ref b1)])) (fun _ k => ?_) ?_
    · refine XS.iconst X2.here hx rfl (hb hby d_jdk_43_47_19) ?_
      exact k
    obtain ⟨_, T3, h3, L3, X3, e3, hQ3, st3⟩ := specC X2 hx hZ rfl hown (wq hw 126 rfl) (wq hw 127 rfl) (wq hw 128 rfl) (by decide) (kc := 0) (ks := 0) (Con.sb (W := 1) (rm_strInitBB l hD b1 r2 O0 A1 F_value_b1 F_coder_b1 ge_b1) hZ (wq hw 128 rfl) (wq hw 10 rfl) (by decide) (by decide)) e2 (a := b1) (g := (mkF m 20 #[vr t, vi 5, vi (Int32.ofNat kk)] [(.int 0), (.ref r2), (.ref b1), (.ref b1)])) rfl (by rw [hml]; rfl) (argsL := [(.ref r2), (.int 0)]) (rest := [(.ref b1)]) (lenOf pd_10 rfl) rfl (by show 2 * 0 + _ ≤ _; exact Nat.le_of_eq rfl) (hb hby d_jdk_43_47_20) (by decide) (by decide)
    obtain ⟨rfl, Nq3, Kq3, Eq3, Fv3, Fc3⟩ := hQ3
    refine OEndsH.st st3 ?_
    replace N0 := Fr.app N0 Nq3
    replace V_t := V_t.keep Kq3 (ninS ne_t_b1 nin0)
    replace A1 := A1.keep Kq3
    replace V2 := V2.keep Kq3 (ninS (Ne.symm ne_b1_r2) nin0)
    have S_b1' : Safe Z EL vm0 h3 b1 := Safe.keep Kq3 (sfS S_b1 sf0) A0.1 S_b1
    have S_r2' : Safe Z EL vm0 h3 r2 := Safe.keep Kq3 (sfS S_b1 sf0) A0.1 S_r2
    have A' : CHr Z EL s.vm s.heap vm0 h3 := A0.trans (CHr.keep Kq3 (sfS S_b1 sf0) A0.1)
    replace S_b1 := S_b1'
    replace S_r2 := S_r2'
    replace A0 := A'
    replace hk0 := Nat.le_trans hk0 Kq3.1
    replace O0 : Ext Z.heap h3 := ext_keep O0 Kq3 (allS ge_b1 all0)
    replace K0 : Keep h0 h3 [] := K0.trans Kq3 (allS (Or.inr sz_b1) all0)
    exact OEndsH.ret X3 hx hZ hEL e3 hS0 hk0 A0 hret hlk rfl (Or.inr (Or.inr (Or.inr (Or.inr ⟨rfl, rfl, rfl⟩)))) (hb hby d_jdk_43_47_23) (by decide) (by decide) ⟨b1, rfl, N0, K0, A1, Fc3, r2, _, Fv3, V2⟩
-- java/lang/String.substring:(II)Ljava/lang/String;
def Q_sub2 (Z : State) (a : Addr) (t : Addr) (k : ClassId) (kk : Nat) (y0 y1 y2 y3 y4 : Int32) (rest : List Value) (h0 : Heap) (v : Option Value) (h : Heap) (L : List Loc) : Prop := ∃ (r : Addr), v = some (.ref r) ∧ Fr Z.heap.size L ∧ Keep h0 h [] ∧ Exa Z h r "java/lang/String" ∧ Fld Z h r "java/lang/String" "coder" "B" (.int 0) ∧ ∃ (t : Addr) (kb : ClassId), Fld Z h r "java/lang/String" "value" "[B" (.ref t) ∧ Arv Z h t kb .byte (Int32.ofNat kk) rest (.int 0)
theorem ef_sub2 (m : MethodId) (a : Addr) : entryFrame m #[(.ref a), (.int 5), (.int (Int32.ofNat (kk + 5)))] 5 = mkF m 0 #[vr a, vi 5, vi (Int32.ofNat (kk + 5)), .unset, .unset] [] := by first | (simp [entryFrame, mkF, argsToLocals, Value.category, vi, vj, vr]; done) | rfl
theorem d_jdk_42_92_0 : decode jdk_42_method_92_code 0 = .ok (.aload_n 0, 1) := by decide +kernel
theorem d_jdk_42_92_1 : decode jdk_42_method_92_code 1 = .ok (.invokevirtual 505, 3) := by decide +kernel
theorem d_jdk_42_92_4 : decode jdk_42_method_92_code 4 = .ok (.istore_n 3, 1) := by decide +kernel
theorem d_jdk_42_92_5 : decode jdk_42_method_92_code 5 = .ok (.iload_n 1, 1) := by decide +kernel
theorem d_jdk_42_92_6 : decode jdk_42_method_92_code 6 = .ok (.iload_n 2, 1) := by decide +kernel
theorem d_jdk_42_92_7 : decode jdk_42_method_92_code 7 = .ok (.iload_n 3, 1) := by decide +kernel
theorem d_jdk_42_92_8 : decode jdk_42_method_92_code 8 = .ok (.invokestatic 521, 3) := by decide +kernel
theorem pd_11 : parseMethodDescriptor "(III)V" = some ⟨[.int, .int, .int], none⟩ := by decide +kernel
theorem d_jdk_42_92_11 : decode jdk_42_method_92_code 11 = .ok (.iload_n 1, 1) := by decide +kernel
theorem d_jdk_42_92_12 : decode jdk_42_method_92_code 12 = .ok (.ifCond .ne 10, 3) := by decide +kernel
theorem d_jdk_42_92_22 : decode jdk_42_method_92_code 22 = .ok (.iload_n 2, 1) := by decide +kernel
theorem d_jdk_42_92_23 : decode jdk_42_method_92_code 23 = .ok (.iload_n 1, 1) := by decide +kernel
theorem d_jdk_42_92_24 : decode jdk_42_method_92_code 24 = .ok (.isub, 1) := by decide +kernel
theorem d_jdk_42_92_25 : decode jdk_42_method_92_code 25 = .ok (.istore 4, 2) := by decide +kernel
theorem d_jdk_42_92_27 : decode jdk_42_method_92_code 27 = .ok (.aload_n 0, 1) := by decide +kernel
theorem d_jdk_42_92_28 : decode jdk_42_method_92_code 28 = .ok (.invokevirtual 492, 3) := by decide +kernel
theorem pd_12 : parseMethodDescriptor "()Z" = some ⟨[], some .boolean⟩ := by decide +kernel
theorem d_jdk_42_92_31 : decode jdk_42_method_92_code 31 = .ok (.ifCond .eq 16, 3) := by decide +kernel
theorem d_jdk_42_92_34 : decode jdk_42_method_92_code 34 = .ok (.aload_n 0, 1) := by decide +kernel
theorem d_jdk_42_92_35 : decode jdk_42_method_92_code 35 = .ok (.getfield 9, 3) := by decide +kernel
theorem d_jdk_42_92_38 : decode jdk_42_method_92_code 38 = .ok (.iload_n 1, 1) := by decide +kernel
theorem d_jdk_42_92_39 : decode jdk_42_method_92_code 39 = .ok (.iload 4, 2) := by decide +kernel
theorem d_jdk_42_92_41 : decode jdk_42_method_92_code 41 = .ok (.invokestatic 685, 3) := by decide +kernel
theorem pd_13 : parseMethodDescriptor "([BII)Ljava/lang/String;" = some ⟨[(.array .byte), .int, .int], some (.object "java/lang/String")⟩ := by decide +kernel
theorem d_jdk_42_92_44 : decode jdk_42_method_92_code 44 = .ok (.goto 13, 3) := by decide +kernel
theorem d_jdk_42_92_57 : decode jdk_42_method_92_code 57 = .ok (.areturn, 1) := by decide +kernel
set_option maxRecDepth 65536 in
set_option maxHeartbeats 40000000 in
theorem rm_sub2 (l : Launch) {Z : State} {a0 : Array Value} (hD : Wd Z a0) (a : Addr) (t : Addr) (k : ClassId) (kk : Nat) (y0 y1 y2 y3 y4 : Int32) (rest : List Value) {h0 : Heap} (O0 : Ext Z.heap h0) (E_a : Exa Z h0 a "java/lang/String") (F_coder_a : Fld Z h0 a "java/lang/String" "coder" "B" (.int 0)) (F_value_a : Fld Z h0 a "java/lang/String" "value" "[B" (.ref t)) (V_t : Arv Z h0 t k .byte (Int32.ofNat (kk + 5)) ((.int y0) :: (.int y1) :: (.int y2) :: (.int y3) :: (.int y4) :: rest) (.int 0)) (hr : rest.length = kk) (hkk : kk ≤ 4) :
    ConH l Z EL (⟨"java/lang/String", "substring", "(II)Ljava/lang/String;"⟩ : MethodName) jdk_42_method_92_code 5 (some (.object "java/lang/String")) [] ({ frames := 4, cells := 2, slots := 8, locals := 64 } : Room) #[(.ref a), (.int 5), (.int (Int32.ofNat (kk + 5)))] h0 [] (Q_sub2 Z a t k kk y0 y1 y2 y3 y4 rest h0) := by
  refine ConH.walk (plainFor_of_name pn_1) ?_
  intro p e s vm0 k0 m below meth c T0 X0 hS0 hk0 hx hZ hby hml hown hnm hret hlk e0 A0 hss
  obtain ⟨hw, ⟨cz, S_CS, hcz⟩, ⟨sf, S_SF, hsf⟩⟩ := id hD
  have N0 := Fr.nil Z.heap.size
  have K0 : Keep h0 h0 [] := Keep.refl _ _
  have hEL : EW Z a0 EL := el_of hw
  have hsa : ∀ a ∈ Bundle.stringAtoms, a.before a0 Z = true := fun d hd => hw d (words_sa d hd)
  refine OEndsH.cast (ef_sub2 m a) ?_
  refine OEndsH.st (S' := T0.setTop (mkF m 1 #[vr a, vi 5, vi (Int32.ofNat (kk + 5)), .unset, .unset] [(.ref a)])) (fun _ k => ?_) ?_
  · refine XS.aloadN X0.here hx rfl (hb hby d_jdk_42_92_0) rfl rfl ?_
    exact k
  obtain ⟨_, T1, h1, L1, X1, e1, hQ1, st1⟩ := virtC X0 hx hZ (y := (⟨"java/lang/String", "length", "()I"⟩ : MethodName)) (z := (⟨"java/lang/String", "length", "()I"⟩ : MethodName)) hown (wq hw 44 rfl) (wq hw 45 rfl) (nf_sel (args := #[]) (mvT hZ (wq hw 37 rfl)) rfl) (wq hw 47 rfl) (wq hw 46 rfl) (by decide) (kc := 0) (ks := 0) (Con.sb (W := 0) (rm_strLen l hD a t k (Int32.ofNat (kk + 5)) ((.int y0) :: (.int y1) :: (.int y2) :: (.int y3) :: (.int y4) :: rest) O0 E_a F_coder_a F_value_a V_t) hZ (wq hw 48 rfl) (wq hw 10 rfl) (by decide) (by decide)) e0 E_a (g := (mkF m 1 #[vr a, vi 5, vi (Int32.ofNat (kk + 5)), .unset, .unset] [(.ref a)])) rfl (by rw [hml]; rfl) (argsL := []) (rest := []) (lenOf pd_3 rfl) rfl (by show 2 * 0 + _ ≤ _; exact Nat.le_of_eq rfl) (hb hby d_jdk_42_92_1) (by decide) (by decide)
  obtain ⟨rfl, Nq1, Hq1⟩ := hQ1
  refine OEndsH.st st1 ?_
  replace N0 := Fr.app N0 Nq1
  replace e1 := e1.trans Hq1
  refine OEndsH.st (S' := T1.setTop (mkF m 8 #[vr a, vi 5, vi (Int32.ofNat (kk + 5)), vi (Int32.ofNat (kk + 5)), .unset] [(.int (Int32.ofNat (kk + 5))), (.int (Int32.ofNat (kk + 5))), (.int 5)])) (fun _ k => ?_) ?_
  · refine XS.istoreN X1.here hx rfl (hb hby d_jdk_42_92_4) rfl (l' := #[vr a, vi 5, vi (Int32.ofNat (kk + 5)), vi (Int32.ofNat (kk + 5)), .unset]) rfl ?_
    refine XS.iloadN X1.here hx rfl (hb hby d_jdk_42_92_5) rfl ?_
    refine XS.iloadN X1.here hx rfl (hb hby d_jdk_42_92_6) rfl ?_
    refine XS.iloadN X1.here hx rfl (hb hby d_jdk_42_92_7) rfl ?_
    exact k
  obtain ⟨_, T2, h2, L2, X2, e2, hQ2, st2⟩ := callC X1 hx hZ hown (wq hw 80 rfl) (wq hw 81 rfl) (wq hw 10 rfl) (wq hw 82 rfl) (by decide) (kc := 0) (ks := 0) (Con.sb (W := 0) (rm_chkBE l hD kk O0 hkk) hZ (wq hw 82 rfl) (wq hw 10 rfl) (by decide) (by decide)) e1 (g := (mkF m 8 #[vr a, vi 5, vi (Int32.ofNat (kk + 5)), vi (Int32.ofNat (kk + 5)), .unset] [(.int (Int32.ofNat (kk + 5))), (.int (Int32.ofNat (kk + 5))), (.int 5)])) rfl (by rw [hml]; rfl) (argsL := [(.int 5), (.int (Int32.ofNat (kk + 5))), (.int (Int32.ofNat (kk + 5)))]) (rest := []) (lenOf pd_11 rfl) rfl (by show 2 * 0 + _ ≤ _; exact Nat.le_of_eq rfl) (hb hby d_jdk_42_92_8) (by decide) (by decide)
  obtain ⟨rfl, Nq2, Hq2⟩ := hQ2
  refine OEndsH.st st2 ?_
  replace N0 := Fr.app N0 Nq2
  replace e2 := e2.trans Hq2
  refine OEndsH.st (S' := T2.setTop (mkF m 25 #[vr a, vi 5, vi (Int32.ofNat (kk + 5)), vi (Int32.ofNat (kk + 5)), .unset] [(.int ((Int32.ofNat (kk + 5)) - (5 : Int32)))])) (fun _ k => ?_) ?_
  · refine XS.iloadN X2.here hx rfl (hb hby d_jdk_42_92_11) rfl ?_
    refine XS.ifYes X2.here hx rfl (pc0 := 12) (pc' := 22) rfl (hb hby d_jdk_42_92_12) rfl ((if0 _ _).trans (feq (by decide)).2) (by decide) (by decide) ?_
    refine XS.iloadN X2.here hx rfl (hb hby d_jdk_42_92_22) rfl ?_
    refine XS.iloadN X2.here hx rfl (hb hby d_jdk_42_92_23) rfl ?_
    show Steps p.tables e below (T2.setTop (mkF m 24 #[vr a, vi 5, vi (Int32.ofNat (kk + 5)), vi (Int32.ofNat (kk + 5)), .unset] [(.int 5), (.int (Int32.ofNat (kk + 5)))])) _
    refine XS.isub X2.here hx rfl (hb hby d_jdk_42_92_24) rfl ?_
    exact k
  rw [sub5 kk]
  refine OEndsH.st (S' := T2.setTop (mkF m 28 #[vr a, vi 5, vi (Int32.ofNat (kk + 5)), vi (Int32.ofNat (kk + 5)), vi (Int32.ofNat kk)] [(.ref a)])) (fun _ k => ?_) ?_
  · refine XS.istore X2.here hx rfl (hb hby d_jdk_42_92_25) rfl (l' := #[vr a, vi 5, vi (Int32.ofNat (kk + 5)), vi (Int32.ofNat (kk + 5)), vi (Int32.ofNat kk)]) rfl ?_
    refine XS.aloadN X2.here hx rfl (hb hby d_jdk_42_92_27) rfl rfl ?_
    exact k
  obtain ⟨_, T3, h3, L3, X3, e3, hQ3, st3⟩ := virtC X2 hx hZ (y := (⟨"java/lang/String", "isLatin1", "()Z"⟩ : MethodName)) (z := (⟨"java/lang/String", "isLatin1", "()Z"⟩ : MethodName)) hown (wq hw 88 rfl) (wq hw 89 rfl) (nf_sel (args := #[]) (mvT hZ (wq hw 37 rfl)) rfl) (wq hw 91 rfl) (wq hw 90 rfl) (by decide) (kc := 0) (ks := 0) (Con.sb (W := 0) (rm_isLatS l hD a O0 F_coder_a) hZ (wq hw 92 rfl) (wq hw 10 rfl) (by decide) (by decide)) e2 E_a (g := (mkF m 28 #[vr a, vi 5, vi (Int32.ofNat (kk + 5)), vi (Int32.ofNat (kk + 5)), vi (Int32.ofNat kk)] [(.ref a)])) rfl (by rw [hml]; rfl) (argsL := []) (rest := []) (lenOf pd_12 rfl) rfl (by show 2 * 0 + _ ≤ _; exact Nat.le_of_eq rfl) (hb hby d_jdk_42_92_28) (by decide) (by decide)
  obtain ⟨rfl, Nq3, Hq3⟩ := hQ3
  refine OEndsH.st st3 ?_
  replace N0 := Fr.app N0 Nq3
  replace e3 := e3.trans Hq3
  refine OEndsH.st (S' := T3.setTop (mkF m 35 #[vr a, vi 5, vi (Int32.ofNat (kk + 5)), vi (Int32.ofNat (kk + 5)), vi (Int32.ofNat kk)] [(.ref a)])) (fun _ k => ?_) ?_
  · refine XS.ifNo X3.here hx rfl (hb hby d_jdk_42_92_31) rfl ((if0 _ _).trans (feq (by decide)).1) ?_
    refine XS.aloadN X3.here hx rfl (hb hby d_jdk_42_92_34) rfl rfl ?_
    exact k
  obtain ⟨T4, X4, e4, st4⟩ := getF X3 hx hZ hown (host := "") (Or.inl (wq hw 27 rfl)) Via.refl e3 F_value_a (g := (mkF m 35 #[vr a, vi 5, vi (Int32.ofNat (kk + 5)), vi (Int32.ofNat (kk + 5)), vi (Int32.ofNat kk)] [(.ref a)])) rfl rfl (hb hby d_jdk_42_92_35)
  refine OEndsH.st st4 ?_
  refine OEndsH.st (S' := T4.setTop (mkF m 41 #[vr a, vi 5, vi (Int32.ofNat (kk + 5)), vi (Int32.ofNat (kk + 5)), vi (Int32.ofNat kk)] [(.int (Int32.ofNat kk)), (.int 5), (.ref t)])) (fun _ k => ?_) ?_
  · refine XS.iloadN X4.here hx rfl (hb hby d_jdk_42_92_38) rfl ?_
    refine XS.iload X4.here hx rfl (hb hby d_jdk_42_92_39) rfl ?_
    exact k
  obtain ⟨_, T5, h5, L5, vm5, k15, X5, e5, hQ5, hS5, hk5, hZ5, hown5, Aq5, st5⟩ := callH X4 hx hZ hown (wq hw 93 rfl) (wq hw 94 rfl) (wq hw 95 rfl) (wq hw 96 rfl) (by decide) (kc := 2) (ks := 8) (ConH.sb (W := 0) (rm_newStr l hD t k kk y0 y1 y2 y3 y4 rest O0 V_t hr hkk) hZ (wq hw 96 rfl) (wq hw 95 rfl) (by decide) (by decide) hEL A0.1 all0) e4 hS0 hk0 (g := (mkF m 41 #[vr a, vi 5, vi (Int32.ofNat (kk + 5)), vi (Int32.ofNat (kk + 5)), vi (Int32.ofNat kk)] [(.int (Int32.ofNat kk)), (.int 5), (.ref t)])) rfl (by rw [hml]; rfl) (argsL := [(.ref t), (.int 5), (.int (Int32.ofNat kk))]) (rest := []) (lenOf pd_13 rfl) rfl (by show 2 * 0 + _ ≤ _; exact Nat.le_of_eq rfl) (hb hby d_jdk_42_92_41) (by decide) (by decide)
  obtain ⟨r5, rfl, Nq5, Kq5, Eq5, Fc5, tq5, kq5, Fv5, V5⟩ := hQ5
  replace A0 : CHr Z EL s.vm s.heap vm5 h5 := A0.trans Aq5
  refine OEndsH.st st5 ?_
  replace N0 := Fr.app N0 Nq5
  replace E_a := E_a.keep Kq5
  replace F_coder_a := F_coder_a.keep Kq5 nin0
  replace F_value_a := F_value_a.keep Kq5 nin0
  replace V_t := V_t.keep Kq5 nin0
  replace O0 : Ext Z.heap h5 := ext_keep O0 Kq5 all0
  replace K0 : Keep h0 h5 [] := K0.trans Kq5 all0
  refine OEndsH.st (S' := T5.setTop (mkF m 57 #[vr a, vi 5, vi (Int32.ofNat (kk + 5)), vi (Int32.ofNat (kk + 5)), vi (Int32.ofNat kk)] [(.ref r5)])) (fun _ k => ?_) ?_
  · refine XS.goto X5.here hx rfl (pc0 := 44) (pc' := 57) rfl (hb hby d_jdk_42_92_44) (by decide) (by decide) ?_
    exact k
  exact OEndsH.ret X5 hx hZ5 hEL e5 hS5 hk5 A0 hret hlk rfl (Or.inr (Or.inr (Or.inr (Or.inr ⟨rfl, rfl, rfl⟩)))) (hb hby d_jdk_42_92_57) (by decide) (by decide) ⟨r5, rfl, N0, K0, Eq5, Fc5, tq5, kq5, Fv5, V5⟩
-- java/lang/String.substring:(I)Ljava/lang/String;
def Q_sub1 (Z : State) (a : Addr) (t : Addr) (k : ClassId) (kk : Nat) (y0 y1 y2 y3 y4 : Int32) (rest : List Value) (h0 : Heap) (v : Option Value) (h : Heap) (L : List Loc) : Prop := ∃ (r : Addr), v = some (.ref r) ∧ Fr Z.heap.size L ∧ Keep h0 h [] ∧ Exa Z h r "java/lang/String" ∧ Fld Z h r "java/lang/String" "coder" "B" (.int 0) ∧ ∃ (t : Addr) (kb : ClassId), Fld Z h r "java/lang/String" "value" "[B" (.ref t) ∧ Arv Z h t kb .byte (Int32.ofNat kk) rest (.int 0)
theorem ef_sub1 (m : MethodId) (a : Addr) : entryFrame m #[(.ref a), (.int 5)] 2 = mkF m 0 #[vr a, vi 5] [] := by first | (simp [entryFrame, mkF, argsToLocals, Value.category, vi, vj, vr]; done) | rfl
theorem d_jdk_42_91_0 : decode jdk_42_method_91_code 0 = .ok (.aload_n 0, 1) := by decide +kernel
theorem d_jdk_42_91_1 : decode jdk_42_method_91_code 1 = .ok (.iload_n 1, 1) := by decide +kernel
theorem d_jdk_42_91_2 : decode jdk_42_method_91_code 2 = .ok (.aload_n 0, 1) := by decide +kernel
theorem d_jdk_42_91_3 : decode jdk_42_method_91_code 3 = .ok (.invokevirtual 505, 3) := by decide +kernel
theorem d_jdk_42_91_6 : decode jdk_42_method_91_code 6 = .ok (.invokevirtual 681, 3) := by decide +kernel
theorem pd_14 : parseMethodDescriptor "(II)Ljava/lang/String;" = some ⟨[.int, .int], some (.object "java/lang/String")⟩ := by decide +kernel
theorem d_jdk_42_91_9 : decode jdk_42_method_91_code 9 = .ok (.areturn, 1) := by decide +kernel
set_option maxRecDepth 65536 in
set_option maxHeartbeats 40000000 in
theorem rm_sub1 (l : Launch) {Z : State} {a0 : Array Value} (hD : Wd Z a0) (a : Addr) (t : Addr) (k : ClassId) (kk : Nat) (y0 y1 y2 y3 y4 : Int32) (rest : List Value) {h0 : Heap} (O0 : Ext Z.heap h0) (E_a : Exa Z h0 a "java/lang/String") (F_coder_a : Fld Z h0 a "java/lang/String" "coder" "B" (.int 0)) (F_value_a : Fld Z h0 a "java/lang/String" "value" "[B" (.ref t)) (V_t : Arv Z h0 t k .byte (Int32.ofNat (kk + 5)) ((.int y0) :: (.int y1) :: (.int y2) :: (.int y3) :: (.int y4) :: rest) (.int 0)) (hr : rest.length = kk) (hkk : kk ≤ 4) :
    ConH l Z EL (⟨"java/lang/String", "substring", "(I)Ljava/lang/String;"⟩ : MethodName) jdk_42_method_91_code 2 (some (.object "java/lang/String")) [] ({ frames := 5, cells := 2, slots := 8, locals := 80 } : Room) #[(.ref a), (.int 5)] h0 [] (Q_sub1 Z a t k kk y0 y1 y2 y3 y4 rest h0) := by
  refine ConH.walk (plainFor_of_name pn_1) ?_
  intro p e s vm0 k0 m below meth c T0 X0 hS0 hk0 hx hZ hby hml hown hnm hret hlk e0 A0 hss
  obtain ⟨hw, ⟨cz, S_CS, hcz⟩, ⟨sf, S_SF, hsf⟩⟩ := id hD
  have N0 := Fr.nil Z.heap.size
  have K0 : Keep h0 h0 [] := Keep.refl _ _
  have hEL : EW Z a0 EL := el_of hw
  have hsa : ∀ a ∈ Bundle.stringAtoms, a.before a0 Z = true := fun d hd => hw d (words_sa d hd)
  refine OEndsH.cast (ef_sub1 m a) ?_
  refine OEndsH.st (S' := T0.setTop (mkF m 3 #[vr a, vi 5] [(.ref a), (.int 5), (.ref a)])) (fun _ k => ?_) ?_
  · refine XS.aloadN X0.here hx rfl (hb hby d_jdk_42_91_0) rfl rfl ?_
    refine XS.iloadN X0.here hx rfl (hb hby d_jdk_42_91_1) rfl ?_
    refine XS.aloadN X0.here hx rfl (hb hby d_jdk_42_91_2) rfl rfl ?_
    exact k
  obtain ⟨_, T1, h1, L1, X1, e1, hQ1, st1⟩ := virtC X0 hx hZ (y := (⟨"java/lang/String", "length", "()I"⟩ : MethodName)) (z := (⟨"java/lang/String", "length", "()I"⟩ : MethodName)) hown (wq hw 44 rfl) (wq hw 45 rfl) (nf_sel (args := #[]) (mvT hZ (wq hw 37 rfl)) rfl) (wq hw 47 rfl) (wq hw 46 rfl) (by decide) (kc := 0) (ks := 0) (Con.sb (W := 2) (rm_strLen l hD a t k (Int32.ofNat (kk + 5)) ((.int y0) :: (.int y1) :: (.int y2) :: (.int y3) :: (.int y4) :: rest) O0 E_a F_coder_a F_value_a V_t) hZ (wq hw 48 rfl) (wq hw 10 rfl) (by decide) (by decide)) e0 E_a (g := (mkF m 3 #[vr a, vi 5] [(.ref a), (.int 5), (.ref a)])) rfl (by rw [hml]; rfl) (argsL := []) (rest := [(.int 5), (.ref a)]) (lenOf pd_3 rfl) rfl (by show 2 * 0 + _ ≤ _; exact Nat.le_of_eq rfl) (hb hby d_jdk_42_91_3) (by decide) (by decide)
  obtain ⟨rfl, Nq1, Hq1⟩ := hQ1
  refine OEndsH.st st1 ?_
  replace N0 := Fr.app N0 Nq1
  replace e1 := e1.trans Hq1
  obtain ⟨_, T2, h2, L2, vm2, k12, X2, e2, hQ2, hS2, hk2, hZ2, hown2, Aq2, st2⟩ := virtH X1 hx hZ (y := (⟨"java/lang/String", "substring", "(II)Ljava/lang/String;"⟩ : MethodName)) (z := (⟨"java/lang/String", "substring", "(II)Ljava/lang/String;"⟩ : MethodName)) hown (wq hw 75 rfl) (wq hw 76 rfl) (nf_sel (args := #[]) (mvT hZ (wq hw 37 rfl)) rfl) (wq hw 78 rfl) (wq hw 77 rfl) (by decide) (kc := 2) (ks := 8) (ConH.sb (W := 0) (rm_sub2 l hD a t k kk y0 y1 y2 y3 y4 rest O0 E_a F_coder_a F_value_a V_t hr hkk) hZ (wq hw 79 rfl) (wq hw 10 rfl) (by decide) (by decide) hEL A0.1 all0) e1 hS0 hk0 E_a (g := (mkF m 6 #[vr a, vi 5] [(.int (Int32.ofNat (kk + 5))), (.int 5), (.ref a)])) rfl (by rw [hml]; rfl) (argsL := [(.int 5), (.int (Int32.ofNat (kk + 5)))]) (rest := []) (lenOf pd_14 rfl) rfl (by show 2 * 0 + _ ≤ _; exact Nat.le_of_eq rfl) (hb hby d_jdk_42_91_6) (by decide) (by decide)
  obtain ⟨r2, rfl, Nq2, Kq2, Eq2, Fc2, tq2, kq2, Fv2, V2⟩ := hQ2
  replace A0 : CHr Z EL s.vm s.heap vm2 h2 := A0.trans Aq2
  refine OEndsH.st st2 ?_
  replace N0 := Fr.app N0 Nq2
  replace E_a := E_a.keep Kq2
  replace F_coder_a := F_coder_a.keep Kq2 nin0
  replace F_value_a := F_value_a.keep Kq2 nin0
  replace V_t := V_t.keep Kq2 nin0
  replace O0 : Ext Z.heap h2 := ext_keep O0 Kq2 all0
  replace K0 : Keep h0 h2 [] := K0.trans Kq2 all0
  exact OEndsH.ret X2 hx hZ2 hEL e2 hS2 hk2 A0 hret hlk rfl (Or.inr (Or.inr (Or.inr (Or.inr ⟨rfl, rfl, rfl⟩)))) (hb hby d_jdk_42_91_9) (by decide) (by decide) ⟨r2, rfl, N0, K0, Eq2, Fc2, tq2, kq2, Fv2, V2⟩
-- com/example/nudge_over_socket/nudgeoversocket/protocol/ChannelNames.isOpenTo:(Ljava/lang/String;Ljava/lang/String;)Z
def Q_isOpen (Z : State) (a : Addr) (b : Addr) (t t2 : Addr) (k k2 : ClassId) (n m : Nat) (cs ds : List Int32) (h0 : Heap) (v : Option Value) (h : Heap) (L : List Loc) : Prop := ∃ r : Int32, v = some (.int r) ∧ ((r = 1 ∧ ¬ (Pre cs ∧ ¬ cs.drop 5 = ds)) ∨ (r = 0 ∧ Pre cs ∧ ¬ cs.drop 5 = ds)) ∧ Fr Z.heap.size L ∧ Keep h0 h []
theorem ef_isOpen (m : MethodId) (a : Addr) (b : Addr) : entryFrame m #[(.ref a), (.ref b)] 2 = mkF m 0 #[vr a, vr b] [] := by first | (simp [entryFrame, mkF, argsToLocals, Value.category, vi, vj, vr]; done) | rfl
theorem pn_6 : plainName "com/example/nudge_over_socket/nudgeoversocket/protocol/ChannelNames" = true := by first | (simp [plainName, overriddenIn]; done) | decide +kernel
theorem d_prog_17_4_0 : decode prog_17_method_4_code 0 = .ok (.aload_n 0, 1) := by decide +kernel
theorem d_prog_17_4_1 : decode prog_17_method_4_code 1 = .ok (.ldc 43, 2) := by decide +kernel
theorem d_prog_17_4_3 : decode prog_17_method_4_code 3 = .ok (.invokevirtual 45, 3) := by decide +kernel
theorem pd_15 : parseMethodDescriptor "(Ljava/lang/String;)Z" = some ⟨[(.object "java/lang/String")], some .boolean⟩ := by decide +kernel
theorem d_prog_17_4_6 : decode prog_17_method_4_code 6 = .ok (.ifCond .eq 19, 3) := by decide +kernel
theorem d_prog_17_4_25 : decode prog_17_method_4_code 25 = .ok (.iconst 1, 1) := by decide +kernel
theorem d_prog_17_4_26 : decode prog_17_method_4_code 26 = .ok (.goto 4, 3) := by decide +kernel
theorem d_prog_17_4_30 : decode prog_17_method_4_code 30 = .ok (.ireturn, 1) := by decide +kernel
theorem d_prog_17_4_9 : decode prog_17_method_4_code 9 = .ok (.aload_n 0, 1) := by decide +kernel
theorem d_prog_17_4_10 : decode prog_17_method_4_code 10 = .ok (.ldc 43, 2) := by decide +kernel
theorem d_prog_17_4_12 : decode prog_17_method_4_code 12 = .ok (.invokevirtual 51, 3) := by decide +kernel
theorem d_prog_17_4_15 : decode prog_17_method_4_code 15 = .ok (.invokevirtual 55, 3) := by decide +kernel
theorem pd_16 : parseMethodDescriptor "(I)Ljava/lang/String;" = some ⟨[.int], some (.object "java/lang/String")⟩ := by decide +kernel
theorem d_prog_17_4_18 : decode prog_17_method_4_code 18 = .ok (.aload_n 1, 1) := by decide +kernel
theorem d_prog_17_4_19 : decode prog_17_method_4_code 19 = .ok (.invokevirtual 59, 3) := by decide +kernel
theorem pd_17 : parseMethodDescriptor "(Ljava/lang/Object;)Z" = some ⟨[(.object "java/lang/Object")], some .boolean⟩ := by decide +kernel
theorem d_prog_17_4_22 : decode prog_17_method_4_code 22 = .ok (.ifCond .eq 7, 3) := by decide +kernel
theorem d_prog_17_4_29 : decode prog_17_method_4_code 29 = .ok (.iconst 0, 1) := by decide +kernel
set_option maxRecDepth 65536 in
set_option maxHeartbeats 40000000 in
theorem rm_isOpen (l : Launch) {Z : State} {a0 : Array Value} (hD : Wd Z a0) (a : Addr) (b : Addr) (t t2 : Addr) (k k2 : ClassId) (n m : Nat) (cs ds : List Int32) {h0 : Heap} (O0 : Ext Z.heap h0) (E_a : Exa Z h0 a "java/lang/String") (F_coder_a : Fld Z h0 a "java/lang/String" "coder" "B" (.int 0)) (F_value_a : Fld Z h0 a "java/lang/String" "value" "[B" (.ref t)) (V_t : Arv Z h0 t k .byte (Int32.ofNat n) (bys cs) (.int 0)) (E_b : Exa Z h0 b "java/lang/String") (F_coder_b : Fld Z h0 b "java/lang/String" "coder" "B" (.int 0)) (F_value_b : Fld Z h0 b "java/lang/String" "value" "[B" (.ref t2)) (V_t2 : Arv Z h0 t2 k2 .byte (Int32.ofNat m) (bys ds) (.int 0)) (hcl : cs.length = n) (hdl : ds.length = m) (hn : n ≤ 9) (hm : m ≤ 9) (hcb : (∀ c ∈ cs, ¬ c < 0 ∧ ¬ (255 : Int32) < c)) (hdb : (∀ c ∈ ds, ¬ c < 0 ∧ ¬ (255 : Int32) < c)) :
    ConH l Z EL (⟨"com/example/nudge_over_socket/nudgeoversocket/protocol/ChannelNames", "isOpenTo", "(Ljava/lang/String;Ljava/lang/String;)Z"⟩ : MethodName) prog_17_method_4_code 2 (some .boolean) [] ({ frames := 6, cells := 6, slots := 56, locals := 93 } : Room) #[(.ref a), (.ref b)] h0 [] (Q_isOpen Z a b t t2 k k2 n m cs ds h0) := by
  refine ConH.walk (plainFor_of_name pn_6) ?_
  intro p e s vm0 k0 m below meth c T0 X0 hS0 hk0 hx hZ hby hml hown hnm hret hlk e0 A0 hss
  obtain ⟨hw, ⟨cz, S_CS, hcz⟩, ⟨sf, S_SF, hsf⟩⟩ := id hD
  have N0 := Fr.nil Z.heap.size
  have K0 : Keep h0 h0 [] := Keep.refl _ _
  have hEL : EW Z a0 EL := el_of hw
  have hsa : ∀ a ∈ Bundle.stringAtoms, a.before a0 Z = true := fun d hd => hw d (words_sa d hd)
  refine OEndsH.cast (ef_isOpen m a b) ?_
  rcases Classical.em (n < 5) with h5 | h5
  · refine OEndsH.st (S' := T0.setTop (mkF m 1 #[vr a, vr b] [(.ref a)])) (fun _ k => ?_) ?_
    · refine XS.aloadN X0.here hx rfl (hb hby d_prog_17_4_0) rfl rfl ?_
      exact k
    obtain ⟨b1, T1, h1, k11, t1, kb1, X1, e1, E1, hS1, hk1, hZ1, hown1, Es1, Fc1, Fv1, V1, -, -, Aq1, -, nes1, st1⟩ := ldcCH X0 hx hZ hown (wq hw 33 rfl) hsa e0 hS0 hk0 hEL (List.mem_of_getElem? (i := 1) rfl) A0.1 (vs := [(.int 117), (.int 115), (.int 101), (.int 114), (.int 58)]) (z := (5 : Int32)) ⟨by decide, by decide⟩ (by decide) rfl (g := (mkF m 1 #[vr a, vr b] [(.ref a)])) rfl (hb hby d_prog_17_4_1) (n := 20) (by decide) (by decide) (by decide) (by decide)
    replace hZ1 : Z.Warmed39 T1.vm := hZ1
    replace hown1 : T1.vm.findClass "com/example/nudge_over_socket/nudgeoversocket/protocol/ChannelNames" = some m.cls := hown1
    replace A0 : CHr Z EL s.vm s.heap T1.vm h1 := A0.trans Aq1
    refine OEndsH.st st1 ?_
    replace E_a := E_a.ext E1
    replace F_coder_a := F_coder_a.ext E1
    replace F_value_a := F_value_a.ext E1
    replace V_t := V_t.ext E1
    replace E_b := E_b.ext E1
    replace F_coder_b := F_coder_b.ext E1
    replace F_value_b := F_value_b.ext E1
    replace V_t2 := V_t2.ext E1
    replace O0 : Ext Z.heap h1 := ext_trans O0 E1
    replace K0 : Keep h0 h1 [] := K0.ext E1
    obtain ⟨_, T2, h2, L2, X2, e2, hQ2, st2⟩ := virtC X1 hx hZ1 (y := (⟨"java/lang/String", "startsWith", "(Ljava/lang/String;)Z"⟩ : MethodName)) (z := (⟨"java/lang/String", "startsWith", "(Ljava/lang/String;)Z"⟩ : MethodName)) hown1 (wq hw 34 rfl) (wq hw 35 rfl) (nf_sel (args := #[]) (mvT hZ1 (wq hw 37 rfl)) rfl) (wq hw 37 rfl) (wq hw 36 rfl) (by decide) (kc := 0) (ks := 0) (Con.sb (W := 0) (rm_swS1 l hD a b1 t t1 k kb1 (Int32.ofNat n) (bys cs) O0 E_a F_coder_a F_value_a V_t Es1 Fc1 Fv1 V1 ⟨(ofn_lt (by omega) (by decide)).mpr h5, ofn_nneg (by omega)⟩) hZ1 (wq hw 38 rfl) (wq hw 10 rfl) (by decide) (by decide)) e1 E_a (g := (mkF m 3 #[vr a, vr b] [(.ref b1), (.ref a)])) rfl (by rw [hml]; rfl) (argsL := [(.ref b1)]) (rest := []) (lenOf pd_15 rfl) rfl (by show 2 * 0 + _ ≤ _; exact Nat.le_of_eq rfl) (hb hby d_prog_17_4_3) (by decide) (by decide)
    obtain ⟨rfl, Nq2, Hq2⟩ := hQ2
    refine OEndsH.st st2 ?_
    replace N0 := Fr.app N0 Nq2
    replace e2 := e2.trans Hq2
    refine OEndsH.st (S' := T2.setTop (mkF m 30 #[vr a, vr b] [(.int 1)])) (fun _ k => ?_) ?_
    · refine XS.ifYes X2.here hx rfl (pc0 := 6) (pc' := 25) rfl (hb hby d_prog_17_4_6) rfl ((if0 _ _).trans (teq (by decide)).1) (by decide) (by decide) ?_
      refine XS.iconst X2.here hx rfl (hb hby d_prog_17_4_25) ?_
      refine XS.goto X2.here hx rfl (pc0 := 26) (pc' := 30) rfl (hb hby d_prog_17_4_26) (by decide) (by decide) ?_
      exact k
    exact OEndsH.ret X2 hx hZ1 hEL e2 hS1 hk1 A0 hret hlk (by decide) (Or.inl ⟨rfl, by simp, _, rfl⟩) (hb hby d_prog_17_4_30) (by decide) (by decide) ⟨_, rfl, Or.inl ⟨rfl, fun q => pre_short hcl h5 q.1⟩, N0, K0⟩
  · obtain ⟨c0, c1, c2, c3, c4, cr, rfl, rfl⟩ := five_of hcl (Nat.le_of_not_lt h5)
    replace V_t : Arv Z h0 t k .byte (Int32.ofNat (cr.length + 5)) ((.int c0.toInt8.toInt32) :: (.int c1.toInt8.toInt32) :: (.int c2.toInt8.toInt32) :: (.int c3.toInt8.toInt32) :: (.int c4.toInt8.toInt32) :: bys cr) (.int 0) := V_t
    have hkk : cr.length ≤ 4 := by omega
    have hz := nlt5 hkk
    have hPB := pre_of hcb
    refine OEndsH.st (S' := T0.setTop (mkF m 1 #[vr a, vr b] [(.ref a)])) (fun _ k => ?_) ?_
    · refine XS.aloadN X0.here hx rfl (hb hby d_prog_17_4_0) rfl rfl ?_
      exact k
    obtain ⟨b1, T1, h1, k11, t1, kb1, X1, e1, E1, hS1, hk1, hZ1, hown1, Es1, Fc1, Fv1, V1, -, -, Aq1, -, nes1, st1⟩ := ldcCH X0 hx hZ hown (wq hw 33 rfl) hsa e0 hS0 hk0 hEL (List.mem_of_getElem? (i := 1) rfl) A0.1 (vs := [(.int 117), (.int 115), (.int 101), (.int 114), (.int 58)]) (z := (5 : Int32)) ⟨by decide, by decide⟩ (by decide) rfl (g := (mkF m 1 #[vr a, vr b] [(.ref a)])) rfl (hb hby d_prog_17_4_1) (n := 20) (by decide) (by decide) (by decide) (by decide)
    replace hZ1 : Z.Warmed39 T1.vm := hZ1
    replace hown1 : T1.vm.findClass "com/example/nudge_over_socket/nudgeoversocket/protocol/ChannelNames" = some m.cls := hown1
    replace A0 : CHr Z EL s.vm s.heap T1.vm h1 := A0.trans Aq1
    refine OEndsH.st st1 ?_
    replace E_a := E_a.ext E1
    replace F_coder_a := F_coder_a.ext E1
    replace F_value_a := F_value_a.ext E1
    replace V_t := V_t.ext E1
    replace E_b := E_b.ext E1
    replace F_coder_b := F_coder_b.ext E1
    replace F_value_b := F_value_b.ext E1
    replace V_t2 := V_t2.ext E1
    replace O0 : Ext Z.heap h1 := ext_trans O0 E1
    replace K0 : Keep h0 h1 [] := K0.ext E1
    obtain ⟨_, T2, h2, L2, X2, e2, hQ2, st2⟩ := virtC X1 hx hZ1 (y := (⟨"java/lang/String", "startsWith", "(Ljava/lang/String;)Z"⟩ : MethodName)) (z := (⟨"java/lang/String", "startsWith", "(Ljava/lang/String;)Z"⟩ : MethodName)) hown1 (wq hw 34 rfl) (wq hw 35 rfl) (nf_sel (args := #[]) (mvT hZ1 (wq hw 37 rfl)) rfl) (wq hw 37 rfl) (wq hw 36 rfl) (by decide) (kc := 0) (ks := 0) (Con.sb (W := 0) (rm_swL1 l hD a b1 t t1 k kb1 (Int32.ofNat (cr.length + 5)) (c0.toInt8.toInt32) (c1.toInt8.toInt32) (c2.toInt8.toInt32) (c3.toInt8.toInt32) (c4.toInt8.toInt32) (bys cr) O0 E_a F_coder_a F_value_a V_t Es1 Fc1 Fv1 V1 hz) hZ1 (wq hw 38 rfl) (wq hw 10 rfl) (by decide) (by decide)) e1 E_a (g := (mkF m 3 #[vr a, vr b] [(.ref b1), (.ref a)])) rfl (by rw [hml]; rfl) (argsL := [(.ref b1)]) (rest := []) (lenOf pd_15 rfl) rfl (by show 2 * 0 + _ ≤ _; exact Nat.le_of_eq rfl) (hb hby d_prog_17_4_3) (by decide) (by decide)
    obtain ⟨r2, rfl, hr2, Nq2, Hq2⟩ := hQ2
    refine OEndsH.st st2 ?_
    replace N0 := Fr.app N0 Nq2
    replace e2 := e2.trans Hq2
    rw [hPB] at hr2
    rcases hr2 with ⟨rfl, hP⟩ | ⟨rfl, hP⟩
    · refine OEndsH.st (S' := T2.setTop (mkF m 10 #[vr a, vr b] [(.ref a)])) (fun _ k => ?_) ?_
      · refine XS.ifNo X2.here hx rfl (hb hby d_prog_17_4_6) rfl ((if0 _ _).trans (feq (by decide)).1) ?_
        refine XS.aloadN X2.here hx rfl (hb hby d_prog_17_4_9) rfl rfl ?_
        exact k
      obtain ⟨b3, T3, h3, k13, t3, kb3, X3, e3, E3, hS3, hk3, hZ3, hown3, Es3, Fc3, Fv3, V3, -, -, Aq3, -, nes3, st3⟩ := ldcCH X2 hx hZ1 hown1 (wq hw 33 rfl) hsa e2 hS1 hk1 hEL (List.mem_of_getElem? (i := 1) rfl) A0.1 (vs := [(.int 117), (.int 115), (.int 101), (.int 114), (.int 58)]) (z := (5 : Int32)) ⟨by decide, by decide⟩ (by decide) rfl (g := (mkF m 10 #[vr a, vr b] [(.ref a)])) rfl (hb hby d_prog_17_4_10) (n := 20) (by decide) (by decide) (by decide) (by decide)
      replace hZ3 : Z.Warmed39 T3.vm := hZ3
      replace hown3 : T3.vm.findClass "com/example/nudge_over_socket/nudgeoversocket/protocol/ChannelNames" = some m.cls := hown3
      replace A0 : CHr Z EL s.vm s.heap T3.vm h3 := A0.trans Aq3
      refine OEndsH.st st3 ?_
      replace E_a := E_a.ext E3
      replace F_coder_a := F_coder_a.ext E3
      replace F_value_a := F_value_a.ext E3
      replace V_t := V_t.ext E3
      replace E_b := E_b.ext E3
      replace F_coder_b := F_coder_b.ext E3
      replace F_value_b := F_value_b.ext E3
      replace V_t2 := V_t2.ext E3
      replace Es1 := Es1.ext E3
      replace Fc1 := Fc1.ext E3
      replace Fv1 := Fv1.ext E3
      replace V1 := V1.ext E3
      replace O0 : Ext Z.heap h3 := ext_trans O0 E3
      replace K0 : Keep h0 h3 [] := K0.ext E3
      obtain ⟨_, T4, h4, L4, X4, e4, hQ4, st4⟩ := virtC X3 hx hZ3 (y := (⟨"java/lang/String", "length", "()I"⟩ : MethodName)) (z := (⟨"java/lang/String", "length", "()I"⟩ : MethodName)) hown3 (wq hw 69 rfl) (wq hw 45 rfl) (nf_sel (args := #[]) (mvT hZ3 (wq hw 37 rfl)) rfl) (wq hw 47 rfl) (wq hw 46 rfl) (by decide) (kc := 0) (ks := 0) (Con.sb (W := 1) (rm_strLen l hD b3 t3 kb3 (5 : Int32) [(.int 117), (.int 115), (.int 101), (.int 114), (.int 58)] O0 Es3 Fc3 Fv3 V3) hZ3 (wq hw 48 rfl) (wq hw 10 rfl) (by decide) (by decide)) e3 Es3 (g := (mkF m 12 #[vr a, vr b] [(.ref b3), (.ref a)])) rfl (by rw [hml]; rfl) (argsL := []) (rest := [(.ref a)]) (lenOf pd_3 rfl) rfl (by show 2 * 0 + _ ≤ _; exact Nat.le_of_eq rfl) (hb hby d_prog_17_4_12) (by decide) (by decide)
      obtain ⟨rfl, Nq4, Hq4⟩ := hQ4
      refine OEndsH.st st4 ?_
      replace N0 := Fr.app N0 Nq4
      replace e4 := e4.trans Hq4
      obtain ⟨_, T5, h5, L5, vm5, k15, X5, e5, hQ5, hS5, hk5, hZ5, hown5, Aq5, st5⟩ := virtH X4 hx hZ3 (y := (⟨"java/lang/String", "substring", "(I)Ljava/lang/String;"⟩ : MethodName)) (z := (⟨"java/lang/String", "substring", "(I)Ljava/lang/String;"⟩ : MethodName)) hown3 (wq hw 70 rfl) (wq hw 71 rfl) (nf_sel (args := #[]) (mvT hZ3 (wq hw 37 rfl)) rfl) (wq hw 73 rfl) (wq hw 72 rfl) (by decide) (kc := 2) (ks := 8) (ConH.sb (W := 0) (rm_sub1 l hD a t k cr.length (c0.toInt8.toInt32) (c1.toInt8.toInt32) (c2.toInt8.toInt32) (c3.toInt8.toInt32) (c4.toInt8.toInt32) (bys cr) O0 E_a F_coder_a F_value_a V_t bys_len hkk) hZ3 (wq hw 74 rfl) (wq hw 10 rfl) (by decide) (by decide) hEL A0.1 all0) e4 hS3 hk3 E_a (g := (mkF m 15 #[vr a, vr b] [(.int 5), (.ref a)])) rfl (by rw [hml]; rfl) (argsL := [(.int 5)]) (rest := []) (lenOf pd_16 rfl) rfl (by show 2 * 0 + _ ≤ _; exact Nat.le_of_eq rfl) (hb hby d_prog_17_4_15) (by decide) (by decide)
      obtain ⟨r5, rfl, Nq5, Kq5, Eq5, Fc5, tq5, kq5, Fv5, V5⟩ := hQ5
      replace A0 : CHr Z EL s.vm s.heap vm5 h5 := A0.trans Aq5
      refine OEndsH.st st5 ?_
      replace N0 := Fr.app N0 Nq5
      replace E_a := E_a.keep Kq5
      replace F_coder_a := F_coder_a.keep Kq5 nin0
      replace F_value_a := F_value_a.keep Kq5 nin0
      replace V_t := V_t.keep Kq5 nin0
      replace E_b := E_b.keep Kq5
      replace F_coder_b := F_coder_b.keep Kq5 nin0
      replace F_value_b := F_value_b.keep Kq5 nin0
      replace V_t2 := V_t2.keep Kq5 nin0
      replace Es1 := Es1.keep Kq5
      replace Fc1 := Fc1.keep Kq5 nin0
      replace Fv1 := Fv1.keep Kq5 nin0
      replace V1 := V1.keep Kq5 nin0
      replace Es3 := Es3.keep Kq5
      replace Fc3 := Fc3.keep Kq5 nin0
      replace Fv3 := Fv3.keep Kq5 nin0
      replace V3 := V3.keep Kq5 nin0
      replace O0 : Ext Z.heap h5 := ext_keep O0 Kq5 all0
      replace K0 : Keep h0 h5 [] := K0.trans Kq5 all0
      refine OEndsH.st (S' := T5.setTop (mkF m 19 #[vr a, vr b] [(.ref b), (.ref r5)])) (fun _ k => ?_) ?_
      · refine XS.aloadN X5.here hx rfl (hb hby d_prog_17_4_18) rfl rfl ?_
        exact k
      have hcr : ∀ c ∈ cr, ¬ c < 0 ∧ ¬ (255 : Int32) < c := fun c hc => hcb c (by simp [hc])
      obtain ⟨_, T6, h6, L6, X6, e6, hQ6, st6⟩ := virtC X5 hx hZ5 (y := (⟨"java/lang/String", "equals", "(Ljava/lang/Object;)Z"⟩ : MethodName)) (z := (⟨"java/lang/String", "equals", "(Ljava/lang/Object;)Z"⟩ : MethodName)) hown5 (wq hw 98 rfl) (wq hw 99 rfl) (nf_sel (args := #[]) (mvT hZ5 (wq hw 37 rfl)) rfl) (wq hw 101 rfl) (wq hw 100 rfl) (by decide) (kc := 0) (ks := 0) (SB.mono (SB.of (Q := fun v h' L => ((v = some (.int 1) ∧ cr = ds) ∨ (v = some (.int 0) ∧ ¬ cr = ds)) ∧ L = [] ∧ h' = h5) (StrChars.Road.eqW (W := 0) hZ5 (fun d hd => hw d (words_eq d hd)) (kI := 4) (wq hw 9 rfl) (cs := cr) (ds := ds) Eq5 Fv5 Fc5 V5 (cod_of rfl hcr) (cod_up hcr) (by omega) E_b F_value_b F_coder_b V_t2 (cod_of hdl hdb) (cod_up hdb) (by omega) (S_CS.ext O0) hcz (by decide) (by decide))) (Q' := fun v h' L => (∃ r : Int32, v = some (.int r) ∧ ((r = 1 ∧ cr = ds) ∨ (r = 0 ∧ ¬ cr = ds))) ∧ Fr Z.heap.size L ∧ h' = h5) (fun v h' L q => ⟨q.1.elim (fun r => ⟨1, r.1, Or.inl ⟨rfl, r.2⟩⟩) (fun r => ⟨0, r.1, Or.inr ⟨rfl, r.2⟩⟩), q.2.1 ▸ Fr.nil _, q.2.2⟩)) e5 Eq5 (g := (mkF m 19 #[vr a, vr b] [(.ref b), (.ref r5)])) rfl (by rw [hml]; rfl) (argsL := [(.ref b)]) (rest := []) (lenOf pd_17 rfl) rfl (by show 2 * 0 + _ ≤ _; exact Nat.le_of_eq rfl) (hb hby d_prog_17_4_19) (by decide) (by decide)
      obtain ⟨⟨rq6, rfl, hq6⟩, Nq6, Hq6⟩ := hQ6
      refine OEndsH.st st6 ?_
      replace N0 := Fr.app N0 Nq6
      replace e6 := e6.trans Hq6
      rcases hq6 with ⟨rfl, hD2⟩ | ⟨rfl, hD2⟩
      · refine OEndsH.st (S' := T6.setTop (mkF m 30 #[vr a, vr b] [(.int 1)])) (fun _ k => ?_) ?_
        · refine XS.ifNo X6.here hx rfl (hb hby d_prog_17_4_22) rfl ((if0 _ _).trans (feq (by decide)).1) ?_
          refine XS.iconst X6.here hx rfl (hb hby d_prog_17_4_25) ?_
          refine XS.goto X6.here hx rfl (pc0 := 26) (pc' := 30) rfl (hb hby d_prog_17_4_26) (by decide) (by decide) ?_
          exact k
        exact OEndsH.ret X6 hx hZ5 hEL e6 hS5 hk5 A0 hret hlk (by decide) (Or.inl ⟨rfl, by simp, _, rfl⟩) (hb hby d_prog_17_4_30) (by decide) (by decide) ⟨_, rfl, Or.inl ⟨rfl, fun q => q.2 hD2⟩, N0, K0⟩
      · refine OEndsH.st (S' := T6.setTop (mkF m 30 #[vr a, vr b] [(.int 0)])) (fun _ k => ?_) ?_
        · refine XS.ifYes X6.here hx rfl (pc0 := 22) (pc' := 29) rfl (hb hby d_prog_17_4_22) rfl ((if0 _ _).trans (teq (by decide)).1) (by decide) (by decide) ?_
          refine XS.iconst X6.here hx rfl (hb hby d_prog_17_4_29) ?_
          exact k
        exact OEndsH.ret X6 hx hZ5 hEL e6 hS5 hk5 A0 hret hlk (by decide) (Or.inl ⟨rfl, by simp, _, rfl⟩) (hb hby d_prog_17_4_30) (by decide) (by decide) ⟨_, rfl, Or.inr ⟨rfl, hP, hD2⟩, N0, K0⟩
    · refine OEndsH.st (S' := T2.setTop (mkF m 30 #[vr a, vr b] [(.int 1)])) (fun _ k => ?_) ?_
      · refine XS.ifYes X2.here hx rfl (pc0 := 6) (pc' := 25) rfl (hb hby d_prog_17_4_6) rfl ((if0 _ _).trans (teq (by decide)).1) (by decide) (by decide) ?_
        refine XS.iconst X2.here hx rfl (hb hby d_prog_17_4_25) ?_
        refine XS.goto X2.here hx rfl (pc0 := 26) (pc' := 30) rfl (hb hby d_prog_17_4_26) (by decide) (by decide) ?_
        exact k
      exact OEndsH.ret X2 hx hZ1 hEL e2 hS1 hk1 A0 hret hlk (by decide) (Or.inl ⟨rfl, by simp, _, rfl⟩) (hb hby d_prog_17_4_30) (by decide) (by decide) ⟨_, rfl, Or.inl ⟨rfl, fun q => hP q.1⟩, N0, K0⟩
def PreL (nl x0 x1 x2 x3 x4 : Int32) : Prop := ¬ nl < 5 ∧ x0 = 117 ∧ x1 = 115 ∧ x2 = 101 ∧ x3 = 114 ∧ x4 = 58
def SameL (nl ul x5 x6 x7 x8 u0 u1 u2 u3 : Int32) : Prop := nl - 5 = ul ∧ (ul < 1 ∨ u0 = x5) ∧ (ul < 2 ∨ u1 = x6) ∧ (ul < 3 ∨ u2 = x7) ∧ (ul < 4 ∨ u3 = x8)
theorem pre_law (n : Nat) (hn : n ≤ 9) (x0 x1 x2 x3 x4 x5 x6 x7 x8 : Int32) : Pre (List.take n [x0, x1, x2, x3, x4, x5, x6, x7, x8]) ↔ PreL (Int32.ofNat n) x0 x1 x2 x3 x4 := by
  unfold Pre PreL
  have : n = 0 ∨ n = 1 ∨ n = 2 ∨ n = 3 ∨ n = 4 ∨ n = 5 ∨ n = 6 ∨ n = 7 ∨ n = 8 ∨ n = 9 := by omega
  rcases this with rfl | rfl | rfl | rfl | rfl | rfl | rfl | rfl | rfl | rfl
  · exact ⟨fun q => (by simp at q), fun q => absurd (by decide) q.1⟩
  · exact ⟨fun q => (by simp at q), fun q => absurd (by decide) q.1⟩
  · exact ⟨fun q => (by simp at q), fun q => absurd (by decide) q.1⟩
  · exact ⟨fun q => (by simp at q), fun q => absurd (by decide) q.1⟩
  · exact ⟨fun q => (by simp at q), fun q => absurd (by decide) q.1⟩
  · exact ⟨fun q => ⟨by decide, by simpa using q⟩, fun q => by simpa using q.2⟩
  · exact ⟨fun q => ⟨by decide, by simpa using q⟩, fun q => by simpa using q.2⟩
  · exact ⟨fun q => ⟨by decide, by simpa using q⟩, fun q => by simpa using q.2⟩
  · exact ⟨fun q => ⟨by decide, by simpa using q⟩, fun q => by simpa using q.2⟩
  · exact ⟨fun q => ⟨by decide, by simpa using q⟩, fun q => by simpa using q.2⟩
theorem same_law (n m : Nat) (hn : 5 ≤ n) (hn9 : n ≤ 9) (hm : m ≤ 4) (x0 x1 x2 x3 x4 x5 x6 x7 x8 u0 u1 u2 u3 : Int32) : (List.take n [x0, x1, x2, x3, x4, x5, x6, x7, x8]).drop 5 = List.take m [u0, u1, u2, u3, 0, 0, 0, 0, 0] ↔ SameL (Int32.ofNat n) (Int32.ofNat m) x5 x6 x7 x8 u0 u1 u2 u3 := by
  unfold SameL
  have h1 : n = 5 ∨ n = 6 ∨ n = 7 ∨ n = 8 ∨ n = 9 := by omega
  have h2 : m = 0 ∨ m = 1 ∨ m = 2 ∨ m = 3 ∨ m = 4 := by omega
  rcases h1 with rfl | rfl | rfl | rfl | rfl <;> rcases h2 with rfl | rfl | rfl | rfl | rfl
  · exact ⟨fun _ => ⟨by decide, Or.inl (by decide), Or.inl (by decide), Or.inl (by decide), Or.inl (by decide)⟩, fun _ => rfl⟩
  · exact ⟨fun q => absurd (congrArg List.length q) (by simp), fun q => absurd q.1 (by decide)⟩
  · exact ⟨fun q => absurd (congrArg List.length q) (by simp), fun q => absurd q.1 (by decide)⟩
  · exact ⟨fun q => absurd (congrArg List.length q) (by simp), fun q => absurd q.1 (by decide)⟩
  · exact ⟨fun q => absurd (congrArg List.length q) (by simp), fun q => absurd q.1 (by decide)⟩
  · exact ⟨fun q => absurd (congrArg List.length q) (by simp), fun q => absurd q.1 (by decide)⟩
  · have e : ([x5] : List Int32) = [u0] ↔ u0 = x5 := by simp [eq_comm]
    refine Iff.trans (show _ ↔ ([x5] : List Int32) = [u0] from Iff.rfl) (e.trans ⟨fun q => ⟨by decide, Or.inr q, Or.inl (by decide), Or.inl (by decide), Or.inl (by decide)⟩, fun q => (q.2.1.resolve_left (by decide))⟩)
  · exact ⟨fun q => absurd (congrArg List.length q) (by simp), fun q => absurd q.1 (by decide)⟩
  · exact ⟨fun q => absurd (congrArg List.length q) (by simp), fun q => absurd q.1 (by decide)⟩
  · exact ⟨fun q => absurd (congrArg List.length q) (by simp), fun q => absurd q.1 (by decide)⟩
  · exact ⟨fun q => absurd (congrArg List.length q) (by simp), fun q => absurd q.1 (by decide)⟩
  · exact ⟨fun q => absurd (congrArg List.length q) (by simp), fun q => absurd q.1 (by decide)⟩
  · have e : ([x5, x6] : List Int32) = [u0, u1] ↔ u0 = x5 ∧ u1 = x6 := by simp [eq_comm]
    refine Iff.trans (show _ ↔ ([x5, x6] : List Int32) = [u0, u1] from Iff.rfl) (e.trans ⟨fun q => ⟨by decide, Or.inr q.1, Or.inr q.2, Or.inl (by decide), Or.inl (by decide)⟩, fun q => ⟨q.2.1.resolve_left (by decide), q.2.2.1.resolve_left (by decide)⟩⟩)
  · exact ⟨fun q => absurd (congrArg List.length q) (by simp), fun q => absurd q.1 (by decide)⟩
  · exact ⟨fun q => absurd (congrArg List.length q) (by simp), fun q => absurd q.1 (by decide)⟩
  · exact ⟨fun q => absurd (congrArg List.length q) (by simp), fun q => absurd q.1 (by decide)⟩
  · exact ⟨fun q => absurd (congrArg List.length q) (by simp), fun q => absurd q.1 (by decide)⟩
  · exact ⟨fun q => absurd (congrArg List.length q) (by simp), fun q => absurd q.1 (by decide)⟩
  · have e : ([x5, x6, x7] : List Int32) = [u0, u1, u2] ↔ u0 = x5 ∧ u1 = x6 ∧ u2 = x7 := by simp [eq_comm]
    refine Iff.trans (show _ ↔ ([x5, x6, x7] : List Int32) = [u0, u1, u2] from Iff.rfl) (e.trans ⟨fun q => ⟨by decide, Or.inr q.1, Or.inr q.2.1, Or.inr q.2.2, Or.inl (by decide)⟩, fun q => ⟨q.2.1.resolve_left (by decide), q.2.2.1.resolve_left (by decide), q.2.2.2.1.resolve_left (by decide)⟩⟩)
  · exact ⟨fun q => absurd (congrArg List.length q) (by simp), fun q => absurd q.1 (by decide)⟩
  · exact ⟨fun q => absurd (congrArg List.length q) (by simp), fun q => absurd q.1 (by decide)⟩
  · exact ⟨fun q => absurd (congrArg List.length q) (by simp), fun q => absurd q.1 (by decide)⟩
  · exact ⟨fun q => absurd (congrArg List.length q) (by simp), fun q => absurd q.1 (by decide)⟩
  · exact ⟨fun q => absurd (congrArg List.length q) (by simp), fun q => absurd q.1 (by decide)⟩
  · have e : ([x5, x6, x7, x8] : List Int32) = [u0, u1, u2, u3] ↔ u0 = x5 ∧ u1 = x6 ∧ u2 = x7 ∧ u3 = x8 := by simp [eq_comm]
    refine Iff.trans (show _ ↔ ([x5, x6, x7, x8] : List Int32) = [u0, u1, u2, u3] from Iff.rfl) (e.trans ⟨fun q => ⟨by decide, Or.inr q.1, Or.inr q.2.1, Or.inr q.2.2.1, Or.inr q.2.2.2⟩, fun q => ⟨q.2.1.resolve_left (by decide), q.2.2.1.resolve_left (by decide), q.2.2.2.1.resolve_left (by decide), q.2.2.2.2.resolve_left (by decide)⟩⟩)
theorem le4 {m : Nat} {ul : Int32} (e : ul = Int32.ofNat m) (h : ¬ (4 : Int32) < ul) (hm : m ≤ 9) : m ≤ 4 := by
  rw [e, Int32.lt_iff_toInt_lt, ofn_toInt (by omega)] at h
  have e1 : (4 : Int32).toInt = 4 := rfl
  omega
theorem nle5 {n : Nat} (hn : n ≤ 9) (h : ¬ Int32.ofNat n < 5) : 5 ≤ n := by
  rw [Int32.lt_iff_toInt_lt, ofn_toInt (by omega)] at h
  have e1 : (5 : Int32).toInt = 5 := rfl
  omega
theorem lt_up {x a b : Int32} (h : x < a) (hab : a < b) : x < b := Int32.lt_trans h hab
def Q_law (Z : State) (v : Option Value) (h : Heap) (L : List Loc) : Prop := v = some (.int 1) ∧ Fr Z.heap.size L
theorem bd_take {n : Nat} {l : List Int32} (h : (∀ c ∈ l, ¬ c < 0 ∧ ¬ (255 : Int32) < c)) : (∀ c ∈ List.take n l, ¬ c < 0 ∧ ¬ (255 : Int32) < c) := fun c hc => h c (List.mem_of_mem_take hc)
-- com/example/nudge_over_socket/nudgeoversocket/protocol/ChannelNamesIsOpenToPinLaw.law:(IIIII)Z
theorem ef_law (m : MethodId) (p0 : Int32) (p1 : Int32) (p2 : Int32) (p3 : Int32) (p4 : Int32) : entryFrame m #[(.int p0), (.int p1), (.int p2), (.int p3), (.int p4)] maxLocals = mkF m 0 #[vi p0, vi p1, vi p2, vi p3, vi p4, .unset, .unset, .unset, .unset, .unset, .unset, .unset, .unset, .unset, .unset, .unset, .unset] [] := by first | (simp [entryFrame, mkF, argsToLocals, Value.category, vi, vj, vr, maxLocals]; done) | rfl
theorem pd_18 : parseMethodDescriptor "(II)C" = some ⟨[.int, .int], some .char⟩ := by decide +kernel
theorem pd_19 : parseMethodDescriptor "([CI)Ljava/lang/String;" = some ⟨[(.array .char), .int], some (.object "java/lang/String")⟩ := by decide +kernel
theorem pd_20 : parseMethodDescriptor "(Ljava/lang/String;Ljava/lang/String;)Z" = some ⟨[(.object "java/lang/String"), (.object "java/lang/String")], some .boolean⟩ := by decide +kernel
set_option maxRecDepth 65536 in
set_option maxHeartbeats 40000000 in
theorem rm_law (l : Launch) {Z : State} {a0 : Array Value} (hD : Wd Z a0) (p0 : Int32) (p1 : Int32) (p2 : Int32) (p3 : Int32) (p4 : Int32) {h0 : Heap} (O0 : Ext Z.heap h0) :
    ConH l Z EL x code maxLocals ret tables_1 room_1 #[(.int p0), (.int p1), (.int p2), (.int p3), (.int p4)] h0 [] (Q_law Z) := by
  refine ConH.walk (plainFor_of_name pn_0) ?_
  intro p e s vm0 k0 m below meth c T0 X0 hS0 hk0 hx hZ hby hml hown hnm hret hlk e0 A0 hss
  obtain ⟨hw, ⟨cz, S_CS, hcz⟩, ⟨sf, S_SF, hsf⟩⟩ := id hD
  have N0 := Fr.nil Z.heap.size
  have hEL : EW Z a0 EL := el_of hw
  have hsa : ∀ a ∈ Bundle.stringAtoms, a.before a0 Z = true := fun d hd => hw d (words_sa d hd)
  refine OEndsH.cast (ef_law m p0 p1 p2 p3 p4) ?_
  refine OEndsH.st (S' := T0.setTop (mkF m 10 #[vi p0, vi p1, vi p2, vi p3, vi p4, vi ((p4 &&& (15 : Int32)) % (10 : Int32)), .unset, .unset, .unset, .unset, .unset, .unset, .unset, .unset, .unset, .unset, .unset] [])) (fun _ k => ?_) ?_
  · refine XS.iload X0.here hx rfl (hb hby at_0) rfl ?_
    refine XS.bipush X0.here hx rfl (hb hby at_2) ?_
    refine XS.iand X0.here hx rfl (hb hby at_4) rfl ?_
    refine XS.bipush X0.here hx rfl (hb hby at_5) ?_
    show Steps p.tables e below (T0.setTop (mkF m 7 #[vi p0, vi p1, vi p2, vi p3, vi p4, .unset, .unset, .unset, .unset, .unset, .unset, .unset, .unset, .unset, .unset, .unset, .unset] [(.int 10), (.int (p4 &&& (15 : Int32)))])) _
    refine iremM X0 hx rfl (hb hby at_7) rfl (by decide) ?_
    refine XS.istore X0.here hx rfl (hb hby at_8) rfl (l' := #[vi p0, vi p1, vi p2, vi p3, vi p4, vi ((p4 &&& (15 : Int32)) % (10 : Int32)), .unset, .unset, .unset, .unset, .unset, .unset, .unset, .unset, .unset, .unset, .unset]) rfl ?_
    exact k
  generalize hg_nl : ((p4 &&& (15 : Int32)) % (10 : Int32)) = nl
  have hnl : ¬ nl < 0 ∧ ¬ (9 : Int32) < nl := hg_nl ▸ mod10 _
  refine OEndsH.st (S' := T0.setTop (mkF m 21 #[vi p0, vi p1, vi p2, vi p3, vi p4, vi nl, vi ((((p4.toUInt32 >>> ((4 : Int32) &&& 31).toUInt32).toInt32) &&& (7 : Int32)) % (5 : Int32)), .unset, .unset, .unset, .unset, .unset, .unset, .unset, .unset, .unset, .unset] [])) (fun _ k => ?_) ?_
  · refine XS.iload X0.here hx rfl (hb hby at_10) rfl ?_
    refine XS.iconst X0.here hx rfl (hb hby at_12) ?_
    refine XS.iushr X0.here hx rfl (hb hby at_13) rfl ?_
    refine XS.bipush X0.here hx rfl (hb hby at_14) ?_
    show Steps p.tables e below (T0.setTop (mkF m 16 #[vi p0, vi p1, vi p2, vi p3, vi p4, vi nl, .unset, .unset, .unset, .unset, .unset, .unset, .unset, .unset, .unset, .unset, .unset] [(.int 7), (.int ((p4.toUInt32 >>> ((4 : Int32) &&& 31).toUInt32).toInt32))])) _
    refine XS.iand X0.here hx rfl (hb hby at_16) rfl ?_
    refine XS.iconst X0.here hx rfl (hb hby at_17) ?_
    refine iremM X0 hx rfl (hb hby at_18) rfl (by decide) ?_
    refine XS.istore X0.here hx rfl (hb hby at_19) rfl (l' := #[vi p0, vi p1, vi p2, vi p3, vi p4, vi nl, vi ((((p4.toUInt32 >>> ((4 : Int32) &&& 31).toUInt32).toInt32) &&& (7 : Int32)) % (5 : Int32)), .unset, .unset, .unset, .unset, .unset, .unset, .unset, .unset, .unset, .unset]) rfl ?_
    exact k
  generalize hg_ul : ((((p4.toUInt32 >>> ((4 : Int32) &&& 31).toUInt32).toInt32) &&& (7 : Int32)) % (5 : Int32)) = ul
  have hul : ¬ ul < 0 ∧ ¬ (4 : Int32) < ul := hg_ul ▸ mod5 _
  refine OEndsH.st (S' := T0.setTop (mkF m 31 #[vi p0, vi p1, vi p2, vi p3, vi p4, vi nl, vi ul, vi (((p4.toUInt32 >>> ((7 : Int32) &&& 31).toUInt32).toInt32) &&& (31 : Int32)), .unset, .unset, .unset, .unset, .unset, .unset, .unset, .unset, .unset] [])) (fun _ k => ?_) ?_
  · refine XS.iload X0.here hx rfl (hb hby at_21) rfl ?_
    refine XS.bipush X0.here hx rfl (hb hby at_23) ?_
    refine XS.iushr X0.here hx rfl (hb hby at_25) rfl ?_
    refine XS.bipush X0.here hx rfl (hb hby at_26) ?_
    show Steps p.tables e below (T0.setTop (mkF m 28 #[vi p0, vi p1, vi p2, vi p3, vi p4, vi nl, vi ul, .unset, .unset, .unset, .unset, .unset, .unset, .unset, .unset, .unset, .unset] [(.int 31), (.int ((p4.toUInt32 >>> ((7 : Int32) &&& 31).toUInt32).toInt32))])) _
    refine XS.iand X0.here hx rfl (hb hby at_28) rfl ?_
    refine XS.istore X0.here hx rfl (hb hby at_29) rfl (l' := #[vi p0, vi p1, vi p2, vi p3, vi p4, vi nl, vi ul, vi (((p4.toUInt32 >>> ((7 : Int32) &&& 31).toUInt32).toInt32) &&& (31 : Int32)), .unset, .unset, .unset, .unset, .unset, .unset, .unset, .unset, .unset]) rfl ?_
    exact k
  generalize hg_pm : (((p4.toUInt32 >>> ((7 : Int32) &&& 31).toUInt32).toInt32) &&& (31 : Int32)) = pm
  refine OEndsH.st (S' := T0.setTop (mkF m 41 #[vi p0, vi p1, vi p2, vi p3, vi p4, vi nl, vi ul, vi pm, vi (((p4.toUInt32 >>> ((12 : Int32) &&& 31).toUInt32).toInt32) &&& (15 : Int32)), .unset, .unset, .unset, .unset, .unset, .unset, .unset, .unset] [])) (fun _ k => ?_) ?_
  · refine XS.iload X0.here hx rfl (hb hby at_31) rfl ?_
    refine XS.bipush X0.here hx rfl (hb hby at_33) ?_
    refine XS.iushr X0.here hx rfl (hb hby at_35) rfl ?_
    refine XS.bipush X0.here hx rfl (hb hby at_36) ?_
    show Steps p.tables e below (T0.setTop (mkF m 38 #[vi p0, vi p1, vi p2, vi p3, vi p4, vi nl, vi ul, vi pm, .unset, .unset, .unset, .unset, .unset, .unset, .unset, .unset, .unset] [(.int 15), (.int ((p4.toUInt32 >>> ((12 : Int32) &&& 31).toUInt32).toInt32))])) _
    refine XS.iand X0.here hx rfl (hb hby at_38) rfl ?_
    refine XS.istore X0.here hx rfl (hb hby at_39) rfl (l' := #[vi p0, vi p1, vi p2, vi p3, vi p4, vi nl, vi ul, vi pm, vi (((p4.toUInt32 >>> ((12 : Int32) &&& 31).toUInt32).toInt32) &&& (15 : Int32)), .unset, .unset, .unset, .unset, .unset, .unset, .unset, .unset]) rfl ?_
    exact k
  generalize hg_cm : (((p4.toUInt32 >>> ((12 : Int32) &&& 31).toUInt32).toInt32) &&& (15 : Int32)) = cm
  refine OEndsH.st (S' := T0.setTop (mkF m 43 #[vi p0, vi p1, vi p2, vi p3, vi p4, vi nl, vi ul, vi pm, vi cm, .unset, .unset, .unset, .unset, .unset, .unset, .unset, .unset] [(.int 9)])) (fun _ k => ?_) ?_
  · refine XS.bipush X0.here hx rfl (hb hby at_41) ?_
    exact k
  obtain ⟨T1, h1, k1, X1, e1, E1, A1, st1⟩ := newP X0 hx hZ (wq hw 0 rfl) e0 (g := (mkF m 43 #[vi p0, vi p1, vi p2, vi p3, vi p4, vi nl, vi ul, vi pm, vi cm, .unset, .unset, .unset, .unset, .unset, .unset, .unset, .unset] [(.int 9)])) rfl (hb hby at_43) rfl (by decide) (cap := 9) (by decide) (by decide) (by decide) (by decide)
  obtain ⟨b1, g1⟩ : ∃ z, z = h0.size := ⟨_, rfl⟩
  rw [← g1] at A1 st1
  refine OEndsH.st st1 ?_
  have ge_b1 : Z.heap.size ≤ b1 := Nat.le_trans O0.1 (Nat.le_of_eq g1.symm)
  have S_b1 : Safe Z EL vm0 h0 b1 := Safe.new (Nat.le_of_eq g1.symm)
  have S_b1' : Safe Z EL vm0 h1 b1 := Safe.ext E1 A0.1 S_b1
  have A' : CHr Z EL s.vm s.heap vm0 h1 := A0.trans (CHr.ext E1 A0.1)
  replace S_b1 := S_b1'
  replace A0 := A'
  replace hk0 := Nat.le_trans hk0 E1.1
  replace O0 : Ext Z.heap h1 := ext_trans O0 E1
  have V_b1 : Arv Z h1 b1 k1 .char (9 : Int32) [(.int 0), (.int 0), (.int 0), (.int 0), (.int 0), (.int 0), (.int 0), (.int 0), (.int 0)] (.int 0) := (Arv.new A1 (by decide)).pad (pad_rep [] (.int 0) 9)
  refine OEndsH.st (S' := T1.setTop (mkF m 54 #[vi p0, vi p1, vi p2, vi p3, vi p4, vi nl, vi ul, vi pm, vi cm, vr b1, .unset, .unset, .unset, .unset, .unset, .unset, .unset] [(.int (pm &&& (1 : Int32))), (.int 0), (.ref b1)])) (fun _ k => ?_) ?_
  · refine XS.astore X1.here hx rfl (hb hby at_45) rfl rfl (l' := #[vi p0, vi p1, vi p2, vi p3, vi p4, vi nl, vi ul, vi pm, vi cm, vr b1, .unset, .unset, .unset, .unset, .unset, .unset, .unset]) rfl ?_
    refine XS.aload X1.here hx rfl (hb hby at_47) rfl rfl ?_
    refine XS.iconst X1.here hx rfl (hb hby at_49) ?_
    refine XS.iload X1.here hx rfl (hb hby at_50) rfl ?_
    show Steps p.tables e below (T1.setTop (mkF m 52 #[vi p0, vi p1, vi p2, vi p3, vi p4, vi nl, vi ul, vi pm, vi cm, vr b1, .unset, .unset, .unset, .unset, .unset, .unset, .unset] [(.int pm), (.int 0), (.ref b1)])) _
    refine XS.iconst X1.here hx rfl (hb hby at_52) ?_
    refine XS.iand X1.here hx rfl (hb hby at_53) rfl ?_
    exact k
  obtain ⟨_, ⟨y2, T2, lc2, hy2, X2, e2, N2, rfl⟩, st2⟩ : OJ p e below (fun S' => ∃ (y2 : Int32) (T' : State) (lc : List Loc), (¬ y2 < 0 ∧ ¬ (255 : Int32) < y2) ∧ Stand p l e room_1 (s.setVm vm0) m #[(.int p0), (.int p1), (.int p2), (.int p3), (.int p4)] below meth c T' lc 1 9 ∧ T'.heap = h1 ∧ Fr Z.heap.size lc ∧ S' = T'.setTop (mkF m 67 #[vi p0, vi p1, vi p2, vi p3, vi p4, vi nl, vi ul, vi pm, vi cm, vr b1, .unset, .unset, .unset, .unset, .unset, .unset, .unset] [(.int y2), (.int 0), (.ref b1)])) (T1.setTop (mkF m 54 #[vi p0, vi p1, vi p2, vi p3, vi p4, vi nl, vi ul, vi pm, vi cm, vr b1, .unset, .unset, .unset, .unset, .unset, .unset, .unset] [(.int (pm &&& (1 : Int32))), (.int 0), (.ref b1)])) := by
    rcases Classical.em ((pm &&& (1 : Int32)) = (0 : Int32)) with hq | hq
    · refine OJ.st (S' := T1.setTop (mkF m 64 #[vi p0, vi p1, vi p2, vi p3, vi p4, vi nl, vi ul, vi pm, vi cm, vr b1, .unset, .unset, .unset, .unset, .unset, .unset, .unset] [(.int 0), (.int p0), (.int 0), (.ref b1)])) (fun _ k => ?_) ?_
      · refine XS.ifYes X1.here hx rfl (pc0 := 54) (pc' := 62) rfl (hb hby at_54) rfl ((if0 _ _).trans (teq hq).1) (by decide) (by decide) ?_
        refine XS.iloadN X1.here hx rfl (hb hby at_62) rfl ?_
        refine XS.iconst X1.here hx rfl (hb hby at_63) ?_
        exact k
      obtain ⟨_, T3, h3, L3, X3, e3, hQ3, st3⟩ := callC X1 hx hZ hown (wq hw 1 rfl) (wq hw 2 rfl) (wq hw 3 rfl) (wq hw 4 rfl) (by decide) (kc := 0) (ks := 0) (Con.sb (W := 2) (rm_ch l hD p0 (0 : Int32) O0) hZ (wq hw 4 rfl) (wq hw 3 rfl) (by decide) (by decide)) e1 (g := (mkF m 64 #[vi p0, vi p1, vi p2, vi p3, vi p4, vi nl, vi ul, vi pm, vi cm, vr b1, .unset, .unset, .unset, .unset, .unset, .unset, .unset] [(.int 0), (.int p0), (.int 0), (.ref b1)])) rfl (by rw [hml]; rfl) (argsL := [(.int p0), (.int 0)]) (rest := [(.int 0), (.ref b1)]) (lenOf pd_18 rfl) rfl (by show 2 * 0 + _ ≤ _; exact Nat.le_of_eq rfl) (hb hby at_64) (by decide) (by decide)
      obtain ⟨z3, rfl, hz3, Nq3, Hq3⟩ := hQ3
      refine OJ.st st3 ?_
      replace N0 := Fr.app N0 Nq3
      replace e3 := e3.trans Hq3
      exact OJ.here ⟨z3, T3, _, hz3, X3, e3, N0, rfl⟩
    · refine OJ.st (S' := T1.setTop (mkF m 67 #[vi p0, vi p1, vi p2, vi p3, vi p4, vi nl, vi ul, vi pm, vi cm, vr b1, .unset, .unset, .unset, .unset, .unset, .unset, .unset] [(.int 117), (.int 0), (.ref b1)])) (fun _ k => ?_) ?_
      · refine XS.ifNo X1.here hx rfl (hb hby at_54) rfl ((if0 _ _).trans (feq hq).1) ?_
        refine XS.bipush X1.here hx rfl (hb hby at_57) ?_
        refine XS.goto X1.here hx rfl (pc0 := 59) (pc' := 67) rfl (hb hby at_59) (by decide) (by decide) ?_
        exact k
      exact OJ.here ⟨(117 : Int32), T1, _, ⟨by decide, by decide⟩, X1, e1, N0, rfl⟩
  refine OEndsH.st st2 ?_
  obtain ⟨cl_b1_3, Ar_b1_3, q_b1_3, S_b1_3, N_b1_3, H_b1_3, G_b1_3⟩ := V_b1
  obtain ⟨T3, h3, X3, e3, W3, st3⟩ := stC X2 hx hZ e2 Ar_b1_3 (j := (0 : Int32)) (inb_of S_b1_3 ⟨by decide, by decide⟩) (g := (mkF m 67 #[vi p0, vi p1, vi p2, vi p3, vi p4, vi nl, vi ul, vi pm, vi cm, vr b1, .unset, .unset, .unset, .unset, .unset, .unset, .unset] [(.int y2), (.int 0), (.ref b1)])) rfl rfl (hb hby at_67)
  have V_b1_3 : Arv Z h3 b1 k1 .char (9 : Int32) [(.int (nar .char y2)), (.int 0), (.int 0), (.int 0), (.int 0), (.int 0), (.int 0), (.int 0), (.int 0)] (.int 0) := Arv.set Ar_b1_3 q_b1_3 S_b1_3 N_b1_3 H_b1_3 G_b1_3 (fits_nar_char _) W3 0 rfl (Nat.le_of_ble_eq_true rfl)
  refine OEndsH.st st3 ?_
  have S_b1' : Safe Z EL vm0 h3 b1 := Safe.wr W3 S_b1 A0.1 S_b1
  have A' : CHr Z EL s.vm s.heap vm0 h3 := A0.trans (CHr.wr W3 S_b1 A0.1)
  replace S_b1 := S_b1'
  replace A0 := A'
  replace hk0 := Nat.le_trans hk0 (Keep.of_wr W3).1
  replace O0 : Ext Z.heap h3 := ext_wr O0 W3 ge_b1
  replace N2 := Fr.snoc X3 N2 ge_b1
  refine OEndsH.st (S' := T3.setTop (mkF m 75 #[vi p0, vi p1, vi p2, vi p3, vi p4, vi nl, vi ul, vi pm, vi cm, vr b1, .unset, .unset, .unset, .unset, .unset, .unset, .unset] [(.int (pm &&& (2 : Int32))), (.int 1), (.ref b1)])) (fun _ k => ?_) ?_
  · refine XS.aload X3.here hx rfl (hb hby at_68) rfl rfl ?_
    refine XS.iconst X3.here hx rfl (hb hby at_70) ?_
    refine XS.iload X3.here hx rfl (hb hby at_71) rfl ?_
    refine XS.iconst X3.here hx rfl (hb hby at_73) ?_
    show Steps p.tables e below (T3.setTop (mkF m 74 #[vi p0, vi p1, vi p2, vi p3, vi p4, vi nl, vi ul, vi pm, vi cm, vr b1, .unset, .unset, .unset, .unset, .unset, .unset, .unset] [(.int 2), (.int pm), (.int 1), (.ref b1)])) _
    refine XS.iand X3.here hx rfl (hb hby at_74) rfl ?_
    exact k
  obtain ⟨_, ⟨y4, T4, lc4, hy4, X4, e4, N4, rfl⟩, st4⟩ : OJ p e below (fun S' => ∃ (y4 : Int32) (T' : State) (lc : List Loc), (¬ y4 < 0 ∧ ¬ (255 : Int32) < y4) ∧ Stand p l e room_1 (s.setVm vm0) m #[(.int p0), (.int p1), (.int p2), (.int p3), (.int p4)] below meth c T' lc 1 9 ∧ T'.heap = h3 ∧ Fr Z.heap.size lc ∧ S' = T'.setTop (mkF m 89 #[vi p0, vi p1, vi p2, vi p3, vi p4, vi nl, vi ul, vi pm, vi cm, vr b1, .unset, .unset, .unset, .unset, .unset, .unset, .unset] [(.int y4), (.int 1), (.ref b1)])) (T3.setTop (mkF m 75 #[vi p0, vi p1, vi p2, vi p3, vi p4, vi nl, vi ul, vi pm, vi cm, vr b1, .unset, .unset, .unset, .unset, .unset, .unset, .unset] [(.int (pm &&& (2 : Int32))), (.int 1), (.ref b1)])) := by
    rcases Classical.em ((pm &&& (2 : Int32)) = (0 : Int32)) with hq | hq
    · refine OJ.st (S' := T3.setTop (mkF m 86 #[vi p0, vi p1, vi p2, vi p3, vi p4, vi nl, vi ul, vi pm, vi cm, vr b1, .unset, .unset, .unset, .unset, .unset, .unset, .unset] [(.int 8), (.int p0), (.int 1), (.ref b1)])) (fun _ k => ?_) ?_
      · refine XS.ifYes X3.here hx rfl (pc0 := 75) (pc' := 83) rfl (hb hby at_75) rfl ((if0 _ _).trans (teq hq).1) (by decide) (by decide) ?_
        refine XS.iloadN X3.here hx rfl (hb hby at_83) rfl ?_
        refine XS.bipush X3.here hx rfl (hb hby at_84) ?_
        exact k
      obtain ⟨_, T5, h5, L5, X5, e5, hQ5, st5⟩ := callC X3 hx hZ hown (wq hw 1 rfl) (wq hw 2 rfl) (wq hw 3 rfl) (wq hw 4 rfl) (by decide) (kc := 0) (ks := 0) (Con.sb (W := 2) (rm_ch l hD p0 (8 : Int32) O0) hZ (wq hw 4 rfl) (wq hw 3 rfl) (by decide) (by decide)) e3 (g := (mkF m 86 #[vi p0, vi p1, vi p2, vi p3, vi p4, vi nl, vi ul, vi pm, vi cm, vr b1, .unset, .unset, .unset, .unset, .unset, .unset, .unset] [(.int 8), (.int p0), (.int 1), (.ref b1)])) rfl (by rw [hml]; rfl) (argsL := [(.int p0), (.int 8)]) (rest := [(.int 1), (.ref b1)]) (lenOf pd_18 rfl) rfl (by show 2 * 0 + _ ≤ _; exact Nat.le_of_eq rfl) (hb hby at_86) (by decide) (by decide)
      obtain ⟨z5, rfl, hz5, Nq5, Hq5⟩ := hQ5
      refine OJ.st st5 ?_
      replace N2 := Fr.app N2 Nq5
      replace e5 := e5.trans Hq5
      exact OJ.here ⟨z5, T5, _, hz5, X5, e5, N2, rfl⟩
    · refine OJ.st (S' := T3.setTop (mkF m 89 #[vi p0, vi p1, vi p2, vi p3, vi p4, vi nl, vi ul, vi pm, vi cm, vr b1, .unset, .unset, .unset, .unset, .unset, .unset, .unset] [(.int 115), (.int 1), (.ref b1)])) (fun _ k => ?_) ?_
      · refine XS.ifNo X3.here hx rfl (hb hby at_75) rfl ((if0 _ _).trans (feq hq).1) ?_
        refine XS.bipush X3.here hx rfl (hb hby at_78) ?_
        refine XS.goto X3.here hx rfl (pc0 := 80) (pc' := 89) rfl (hb hby at_80) (by decide) (by decide) ?_
        exact k
      exact OJ.here ⟨(115 : Int32), T3, _, ⟨by decide, by decide⟩, X3, e3, N2, rfl⟩
  refine OEndsH.st st4 ?_
  obtain ⟨cl_b1_5, Ar_b1_5, q_b1_5, S_b1_5, N_b1_5, H_b1_5, G_b1_5⟩ := V_b1_3
  obtain ⟨T5, h5, X5, e5, W5, st5⟩ := stC X4 hx hZ e4 Ar_b1_5 (j := (1 : Int32)) (inb_of S_b1_5 ⟨by decide, by decide⟩) (g := (mkF m 89 #[vi p0, vi p1, vi p2, vi p3, vi p4, vi nl, vi ul, vi pm, vi cm, vr b1, .unset, .unset, .unset, .unset, .unset, .unset, .unset] [(.int y4), (.int 1), (.ref b1)])) rfl rfl (hb hby at_89)
  have V_b1_5 : Arv Z h5 b1 k1 .char (9 : Int32) [(.int (nar .char y2)), (.int (nar .char y4)), (.int 0), (.int 0), (.int 0), (.int 0), (.int 0), (.int 0), (.int 0)] (.int 0) := Arv.set Ar_b1_5 q_b1_5 S_b1_5 N_b1_5 H_b1_5 G_b1_5 (fits_nar_char _) W5 1 rfl (Nat.le_of_ble_eq_true rfl)
  refine OEndsH.st st5 ?_
  have S_b1' : Safe Z EL vm0 h5 b1 := Safe.wr W5 S_b1 A0.1 S_b1
  have A' : CHr Z EL s.vm s.heap vm0 h5 := A0.trans (CHr.wr W5 S_b1 A0.1)
  replace S_b1 := S_b1'
  replace A0 := A'
  replace hk0 := Nat.le_trans hk0 (Keep.of_wr W5).1
  replace O0 : Ext Z.heap h5 := ext_wr O0 W5 ge_b1
  replace N4 := Fr.snoc X5 N4 ge_b1
  refine OEndsH.st (S' := T5.setTop (mkF m 97 #[vi p0, vi p1, vi p2, vi p3, vi p4, vi nl, vi ul, vi pm, vi cm, vr b1, .unset, .unset, .unset, .unset, .unset, .unset, .unset] [(.int (pm &&& (4 : Int32))), (.int 2), (.ref b1)])) (fun _ k => ?_) ?_
  · refine XS.aload X5.here hx rfl (hb hby at_90) rfl rfl ?_
    refine XS.iconst X5.here hx rfl (hb hby at_92) ?_
    refine XS.iload X5.here hx rfl (hb hby at_93) rfl ?_
    refine XS.iconst X5.here hx rfl (hb hby at_95) ?_
    show Steps p.tables e below (T5.setTop (mkF m 96 #[vi p0, vi p1, vi p2, vi p3, vi p4, vi nl, vi ul, vi pm, vi cm, vr b1, .unset, .unset, .unset, .unset, .unset, .unset, .unset] [(.int 4), (.int pm), (.int 2), (.ref b1)])) _
    refine XS.iand X5.here hx rfl (hb hby at_96) rfl ?_
    exact k
  obtain ⟨_, ⟨y6, T6, lc6, hy6, X6, e6, N6, rfl⟩, st6⟩ : OJ p e below (fun S' => ∃ (y6 : Int32) (T' : State) (lc : List Loc), (¬ y6 < 0 ∧ ¬ (255 : Int32) < y6) ∧ Stand p l e room_1 (s.setVm vm0) m #[(.int p0), (.int p1), (.int p2), (.int p3), (.int p4)] below meth c T' lc 1 9 ∧ T'.heap = h5 ∧ Fr Z.heap.size lc ∧ S' = T'.setTop (mkF m 111 #[vi p0, vi p1, vi p2, vi p3, vi p4, vi nl, vi ul, vi pm, vi cm, vr b1, .unset, .unset, .unset, .unset, .unset, .unset, .unset] [(.int y6), (.int 2), (.ref b1)])) (T5.setTop (mkF m 97 #[vi p0, vi p1, vi p2, vi p3, vi p4, vi nl, vi ul, vi pm, vi cm, vr b1, .unset, .unset, .unset, .unset, .unset, .unset, .unset] [(.int (pm &&& (4 : Int32))), (.int 2), (.ref b1)])) := by
    rcases Classical.em ((pm &&& (4 : Int32)) = (0 : Int32)) with hq | hq
    · refine OJ.st (S' := T5.setTop (mkF m 108 #[vi p0, vi p1, vi p2, vi p3, vi p4, vi nl, vi ul, vi pm, vi cm, vr b1, .unset, .unset, .unset, .unset, .unset, .unset, .unset] [(.int 16), (.int p0), (.int 2), (.ref b1)])) (fun _ k => ?_) ?_
      · refine XS.ifYes X5.here hx rfl (pc0 := 97) (pc' := 105) rfl (hb hby at_97) rfl ((if0 _ _).trans (teq hq).1) (by decide) (by decide) ?_
        refine XS.iloadN X5.here hx rfl (hb hby at_105) rfl ?_
        refine XS.bipush X5.here hx rfl (hb hby at_106) ?_
        exact k
      obtain ⟨_, T7, h7, L7, X7, e7, hQ7, st7⟩ := callC X5 hx hZ hown (wq hw 1 rfl) (wq hw 2 rfl) (wq hw 3 rfl) (wq hw 4 rfl) (by decide) (kc := 0) (ks := 0) (Con.sb (W := 2) (rm_ch l hD p0 (16 : Int32) O0) hZ (wq hw 4 rfl) (wq hw 3 rfl) (by decide) (by decide)) e5 (g := (mkF m 108 #[vi p0, vi p1, vi p2, vi p3, vi p4, vi nl, vi ul, vi pm, vi cm, vr b1, .unset, .unset, .unset, .unset, .unset, .unset, .unset] [(.int 16), (.int p0), (.int 2), (.ref b1)])) rfl (by rw [hml]; rfl) (argsL := [(.int p0), (.int 16)]) (rest := [(.int 2), (.ref b1)]) (lenOf pd_18 rfl) rfl (by show 2 * 0 + _ ≤ _; exact Nat.le_of_eq rfl) (hb hby at_108) (by decide) (by decide)
      obtain ⟨z7, rfl, hz7, Nq7, Hq7⟩ := hQ7
      refine OJ.st st7 ?_
      replace N4 := Fr.app N4 Nq7
      replace e7 := e7.trans Hq7
      exact OJ.here ⟨z7, T7, _, hz7, X7, e7, N4, rfl⟩
    · refine OJ.st (S' := T5.setTop (mkF m 111 #[vi p0, vi p1, vi p2, vi p3, vi p4, vi nl, vi ul, vi pm, vi cm, vr b1, .unset, .unset, .unset, .unset, .unset, .unset, .unset] [(.int 101), (.int 2), (.ref b1)])) (fun _ k => ?_) ?_
      · refine XS.ifNo X5.here hx rfl (hb hby at_97) rfl ((if0 _ _).trans (feq hq).1) ?_
        refine XS.bipush X5.here hx rfl (hb hby at_100) ?_
        refine XS.goto X5.here hx rfl (pc0 := 102) (pc' := 111) rfl (hb hby at_102) (by decide) (by decide) ?_
        exact k
      exact OJ.here ⟨(101 : Int32), T5, _, ⟨by decide, by decide⟩, X5, e5, N4, rfl⟩
  refine OEndsH.st st6 ?_
  obtain ⟨cl_b1_7, Ar_b1_7, q_b1_7, S_b1_7, N_b1_7, H_b1_7, G_b1_7⟩ := V_b1_5
  obtain ⟨T7, h7, X7, e7, W7, st7⟩ := stC X6 hx hZ e6 Ar_b1_7 (j := (2 : Int32)) (inb_of S_b1_7 ⟨by decide, by decide⟩) (g := (mkF m 111 #[vi p0, vi p1, vi p2, vi p3, vi p4, vi nl, vi ul, vi pm, vi cm, vr b1, .unset, .unset, .unset, .unset, .unset, .unset, .unset] [(.int y6), (.int 2), (.ref b1)])) rfl rfl (hb hby at_111)
  have V_b1_7 : Arv Z h7 b1 k1 .char (9 : Int32) [(.int (nar .char y2)), (.int (nar .char y4)), (.int (nar .char y6)), (.int 0), (.int 0), (.int 0), (.int 0), (.int 0), (.int 0)] (.int 0) := Arv.set Ar_b1_7 q_b1_7 S_b1_7 N_b1_7 H_b1_7 G_b1_7 (fits_nar_char _) W7 2 rfl (Nat.le_of_ble_eq_true rfl)
  refine OEndsH.st st7 ?_
  have S_b1' : Safe Z EL vm0 h7 b1 := Safe.wr W7 S_b1 A0.1 S_b1
  have A' : CHr Z EL s.vm s.heap vm0 h7 := A0.trans (CHr.wr W7 S_b1 A0.1)
  replace S_b1 := S_b1'
  replace A0 := A'
  replace hk0 := Nat.le_trans hk0 (Keep.of_wr W7).1
  replace O0 : Ext Z.heap h7 := ext_wr O0 W7 ge_b1
  replace N6 := Fr.snoc X7 N6 ge_b1
  refine OEndsH.st (S' := T7.setTop (mkF m 120 #[vi p0, vi p1, vi p2, vi p3, vi p4, vi nl, vi ul, vi pm, vi cm, vr b1, .unset, .unset, .unset, .unset, .unset, .unset, .unset] [(.int (pm &&& (8 : Int32))), (.int 3), (.ref b1)])) (fun _ k => ?_) ?_
  · refine XS.aload X7.here hx rfl (hb hby at_112) rfl rfl ?_
    refine XS.iconst X7.here hx rfl (hb hby at_114) ?_
    refine XS.iload X7.here hx rfl (hb hby at_115) rfl ?_
    refine XS.bipush X7.here hx rfl (hb hby at_117) ?_
    show Steps p.tables e below (T7.setTop (mkF m 119 #[vi p0, vi p1, vi p2, vi p3, vi p4, vi nl, vi ul, vi pm, vi cm, vr b1, .unset, .unset, .unset, .unset, .unset, .unset, .unset] [(.int 8), (.int pm), (.int 3), (.ref b1)])) _
    refine XS.iand X7.here hx rfl (hb hby at_119) rfl ?_
    exact k
  obtain ⟨_, ⟨y8, T8, lc8, hy8, X8, e8, N8, rfl⟩, st8⟩ : OJ p e below (fun S' => ∃ (y8 : Int32) (T' : State) (lc : List Loc), (¬ y8 < 0 ∧ ¬ (255 : Int32) < y8) ∧ Stand p l e room_1 (s.setVm vm0) m #[(.int p0), (.int p1), (.int p2), (.int p3), (.int p4)] below meth c T' lc 1 9 ∧ T'.heap = h7 ∧ Fr Z.heap.size lc ∧ S' = T'.setTop (mkF m 134 #[vi p0, vi p1, vi p2, vi p3, vi p4, vi nl, vi ul, vi pm, vi cm, vr b1, .unset, .unset, .unset, .unset, .unset, .unset, .unset] [(.int y8), (.int 3), (.ref b1)])) (T7.setTop (mkF m 120 #[vi p0, vi p1, vi p2, vi p3, vi p4, vi nl, vi ul, vi pm, vi cm, vr b1, .unset, .unset, .unset, .unset, .unset, .unset, .unset] [(.int (pm &&& (8 : Int32))), (.int 3), (.ref b1)])) := by
    rcases Classical.em ((pm &&& (8 : Int32)) = (0 : Int32)) with hq | hq
    · refine OJ.st (S' := T7.setTop (mkF m 131 #[vi p0, vi p1, vi p2, vi p3, vi p4, vi nl, vi ul, vi pm, vi cm, vr b1, .unset, .unset, .unset, .unset, .unset, .unset, .unset] [(.int 24), (.int p0), (.int 3), (.ref b1)])) (fun _ k => ?_) ?_
      · refine XS.ifYes X7.here hx rfl (pc0 := 120) (pc' := 128) rfl (hb hby at_120) rfl ((if0 _ _).trans (teq hq).1) (by decide) (by decide) ?_
        refine XS.iloadN X7.here hx rfl (hb hby at_128) rfl ?_
        refine XS.bipush X7.here hx rfl (hb hby at_129) ?_
        exact k
      obtain ⟨_, T9, h9, L9, X9, e9, hQ9, st9⟩ := callC X7 hx hZ hown (wq hw 1 rfl) (wq hw 2 rfl) (wq hw 3 rfl) (wq hw 4 rfl) (by decide) (kc := 0) (ks := 0) (Con.sb (W := 2) (rm_ch l hD p0 (24 : Int32) O0) hZ (wq hw 4 rfl) (wq hw 3 rfl) (by decide) (by decide)) e7 (g := (mkF m 131 #[vi p0, vi p1, vi p2, vi p3, vi p4, vi nl, vi ul, vi pm, vi cm, vr b1, .unset, .unset, .unset, .unset, .unset, .unset, .unset] [(.int 24), (.int p0), (.int 3), (.ref b1)])) rfl (by rw [hml]; rfl) (argsL := [(.int p0), (.int 24)]) (rest := [(.int 3), (.ref b1)]) (lenOf pd_18 rfl) rfl (by show 2 * 0 + _ ≤ _; exact Nat.le_of_eq rfl) (hb hby at_131) (by decide) (by decide)
      obtain ⟨z9, rfl, hz9, Nq9, Hq9⟩ := hQ9
      refine OJ.st st9 ?_
      replace N6 := Fr.app N6 Nq9
      replace e9 := e9.trans Hq9
      exact OJ.here ⟨z9, T9, _, hz9, X9, e9, N6, rfl⟩
    · refine OJ.st (S' := T7.setTop (mkF m 134 #[vi p0, vi p1, vi p2, vi p3, vi p4, vi nl, vi ul, vi pm, vi cm, vr b1, .unset, .unset, .unset, .unset, .unset, .unset, .unset] [(.int 114), (.int 3), (.ref b1)])) (fun _ k => ?_) ?_
      · refine XS.ifNo X7.here hx rfl (hb hby at_120) rfl ((if0 _ _).trans (feq hq).1) ?_
        refine XS.bipush X7.here hx rfl (hb hby at_123) ?_
        refine XS.goto X7.here hx rfl (pc0 := 125) (pc' := 134) rfl (hb hby at_125) (by decide) (by decide) ?_
        exact k
      exact OJ.here ⟨(114 : Int32), T7, _, ⟨by decide, by decide⟩, X7, e7, N6, rfl⟩
  refine OEndsH.st st8 ?_
  obtain ⟨cl_b1_9, Ar_b1_9, q_b1_9, S_b1_9, N_b1_9, H_b1_9, G_b1_9⟩ := V_b1_7
  obtain ⟨T9, h9, X9, e9, W9, st9⟩ := stC X8 hx hZ e8 Ar_b1_9 (j := (3 : Int32)) (inb_of S_b1_9 ⟨by decide, by decide⟩) (g := (mkF m 134 #[vi p0, vi p1, vi p2, vi p3, vi p4, vi nl, vi ul, vi pm, vi cm, vr b1, .unset, .unset, .unset, .unset, .unset, .unset, .unset] [(.int y8), (.int 3), (.ref b1)])) rfl rfl (hb hby at_134)
  have V_b1_9 : Arv Z h9 b1 k1 .char (9 : Int32) [(.int (nar .char y2)), (.int (nar .char y4)), (.int (nar .char y6)), (.int (nar .char y8)), (.int 0), (.int 0), (.int 0), (.int 0), (.int 0)] (.int 0) := Arv.set Ar_b1_9 q_b1_9 S_b1_9 N_b1_9 H_b1_9 G_b1_9 (fits_nar_char _) W9 3 rfl (Nat.le_of_ble_eq_true rfl)
  refine OEndsH.st st9 ?_
  have S_b1' : Safe Z EL vm0 h9 b1 := Safe.wr W9 S_b1 A0.1 S_b1
  have A' : CHr Z EL s.vm s.heap vm0 h9 := A0.trans (CHr.wr W9 S_b1 A0.1)
  replace S_b1 := S_b1'
  replace A0 := A'
  replace hk0 := Nat.le_trans hk0 (Keep.of_wr W9).1
  replace O0 : Ext Z.heap h9 := ext_wr O0 W9 ge_b1
  replace N8 := Fr.snoc X9 N8 ge_b1
  refine OEndsH.st (S' := T9.setTop (mkF m 143 #[vi p0, vi p1, vi p2, vi p3, vi p4, vi nl, vi ul, vi pm, vi cm, vr b1, .unset, .unset, .unset, .unset, .unset, .unset, .unset] [(.int (pm &&& (16 : Int32))), (.int 4), (.ref b1)])) (fun _ k => ?_) ?_
  · refine XS.aload X9.here hx rfl (hb hby at_135) rfl rfl ?_
    refine XS.iconst X9.here hx rfl (hb hby at_137) ?_
    refine XS.iload X9.here hx rfl (hb hby at_138) rfl ?_
    refine XS.bipush X9.here hx rfl (hb hby at_140) ?_
    show Steps p.tables e below (T9.setTop (mkF m 142 #[vi p0, vi p1, vi p2, vi p3, vi p4, vi nl, vi ul, vi pm, vi cm, vr b1, .unset, .unset, .unset, .unset, .unset, .unset, .unset] [(.int 16), (.int pm), (.int 4), (.ref b1)])) _
    refine XS.iand X9.here hx rfl (hb hby at_142) rfl ?_
    exact k
  obtain ⟨_, ⟨y10, T10, lc10, hy10, X10, e10, N10, rfl⟩, st10⟩ : OJ p e below (fun S' => ∃ (y10 : Int32) (T' : State) (lc : List Loc), (¬ y10 < 0 ∧ ¬ (255 : Int32) < y10) ∧ Stand p l e room_1 (s.setVm vm0) m #[(.int p0), (.int p1), (.int p2), (.int p3), (.int p4)] below meth c T' lc 1 9 ∧ T'.heap = h9 ∧ Fr Z.heap.size lc ∧ S' = T'.setTop (mkF m 156 #[vi p0, vi p1, vi p2, vi p3, vi p4, vi nl, vi ul, vi pm, vi cm, vr b1, .unset, .unset, .unset, .unset, .unset, .unset, .unset] [(.int y10), (.int 4), (.ref b1)])) (T9.setTop (mkF m 143 #[vi p0, vi p1, vi p2, vi p3, vi p4, vi nl, vi ul, vi pm, vi cm, vr b1, .unset, .unset, .unset, .unset, .unset, .unset, .unset] [(.int (pm &&& (16 : Int32))), (.int 4), (.ref b1)])) := by
    rcases Classical.em ((pm &&& (16 : Int32)) = (0 : Int32)) with hq | hq
    · refine OJ.st (S' := T9.setTop (mkF m 153 #[vi p0, vi p1, vi p2, vi p3, vi p4, vi nl, vi ul, vi pm, vi cm, vr b1, .unset, .unset, .unset, .unset, .unset, .unset, .unset] [(.int 0), (.int p1), (.int 4), (.ref b1)])) (fun _ k => ?_) ?_
      · refine XS.ifYes X9.here hx rfl (pc0 := 143) (pc' := 151) rfl (hb hby at_143) rfl ((if0 _ _).trans (teq hq).1) (by decide) (by decide) ?_
        refine XS.iloadN X9.here hx rfl (hb hby at_151) rfl ?_
        refine XS.iconst X9.here hx rfl (hb hby at_152) ?_
        exact k
      obtain ⟨_, T11, h11, L11, X11, e11, hQ11, st11⟩ := callC X9 hx hZ hown (wq hw 1 rfl) (wq hw 2 rfl) (wq hw 3 rfl) (wq hw 4 rfl) (by decide) (kc := 0) (ks := 0) (Con.sb (W := 2) (rm_ch l hD p1 (0 : Int32) O0) hZ (wq hw 4 rfl) (wq hw 3 rfl) (by decide) (by decide)) e9 (g := (mkF m 153 #[vi p0, vi p1, vi p2, vi p3, vi p4, vi nl, vi ul, vi pm, vi cm, vr b1, .unset, .unset, .unset, .unset, .unset, .unset, .unset] [(.int 0), (.int p1), (.int 4), (.ref b1)])) rfl (by rw [hml]; rfl) (argsL := [(.int p1), (.int 0)]) (rest := [(.int 4), (.ref b1)]) (lenOf pd_18 rfl) rfl (by show 2 * 0 + _ ≤ _; exact Nat.le_of_eq rfl) (hb hby at_153) (by decide) (by decide)
      obtain ⟨z11, rfl, hz11, Nq11, Hq11⟩ := hQ11
      refine OJ.st st11 ?_
      replace N8 := Fr.app N8 Nq11
      replace e11 := e11.trans Hq11
      exact OJ.here ⟨z11, T11, _, hz11, X11, e11, N8, rfl⟩
    · refine OJ.st (S' := T9.setTop (mkF m 156 #[vi p0, vi p1, vi p2, vi p3, vi p4, vi nl, vi ul, vi pm, vi cm, vr b1, .unset, .unset, .unset, .unset, .unset, .unset, .unset] [(.int 58), (.int 4), (.ref b1)])) (fun _ k => ?_) ?_
      · refine XS.ifNo X9.here hx rfl (hb hby at_143) rfl ((if0 _ _).trans (feq hq).1) ?_
        refine XS.bipush X9.here hx rfl (hb hby at_146) ?_
        refine XS.goto X9.here hx rfl (pc0 := 148) (pc' := 156) rfl (hb hby at_148) (by decide) (by decide) ?_
        exact k
      exact OJ.here ⟨(58 : Int32), T9, _, ⟨by decide, by decide⟩, X9, e9, N8, rfl⟩
  refine OEndsH.st st10 ?_
  obtain ⟨cl_b1_11, Ar_b1_11, q_b1_11, S_b1_11, N_b1_11, H_b1_11, G_b1_11⟩ := V_b1_9
  obtain ⟨T11, h11, X11, e11, W11, st11⟩ := stC X10 hx hZ e10 Ar_b1_11 (j := (4 : Int32)) (inb_of S_b1_11 ⟨by decide, by decide⟩) (g := (mkF m 156 #[vi p0, vi p1, vi p2, vi p3, vi p4, vi nl, vi ul, vi pm, vi cm, vr b1, .unset, .unset, .unset, .unset, .unset, .unset, .unset] [(.int y10), (.int 4), (.ref b1)])) rfl rfl (hb hby at_156)
  have V_b1_11 : Arv Z h11 b1 k1 .char (9 : Int32) [(.int (nar .char y2)), (.int (nar .char y4)), (.int (nar .char y6)), (.int (nar .char y8)), (.int (nar .char y10)), (.int 0), (.int 0), (.int 0), (.int 0)] (.int 0) := Arv.set Ar_b1_11 q_b1_11 S_b1_11 N_b1_11 H_b1_11 G_b1_11 (fits_nar_char _) W11 4 rfl (Nat.le_of_ble_eq_true rfl)
  refine OEndsH.st st11 ?_
  have S_b1' : Safe Z EL vm0 h11 b1 := Safe.wr W11 S_b1 A0.1 S_b1
  have A' : CHr Z EL s.vm s.heap vm0 h11 := A0.trans (CHr.wr W11 S_b1 A0.1)
  replace S_b1 := S_b1'
  replace A0 := A'
  replace hk0 := Nat.le_trans hk0 (Keep.of_wr W11).1
  replace O0 : Ext Z.heap h11 := ext_wr O0 W11 ge_b1
  replace N10 := Fr.snoc X11 N10 ge_b1
  refine OEndsH.st (S' := T11.setTop (mkF m 163 #[vi p0, vi p1, vi p2, vi p3, vi p4, vi nl, vi ul, vi pm, vi cm, vr b1, .unset, .unset, .unset, .unset, .unset, .unset, .unset] [(.int 8), (.int p1), (.int 5), (.ref b1)])) (fun _ k => ?_) ?_
  · refine XS.aload X11.here hx rfl (hb hby at_157) rfl rfl ?_
    refine XS.iconst X11.here hx rfl (hb hby at_159) ?_
    refine XS.iloadN X11.here hx rfl (hb hby at_160) rfl ?_
    refine XS.bipush X11.here hx rfl (hb hby at_161) ?_
    exact k
  obtain ⟨_, T12, h12, L12, X12, e12, hQ12, st12⟩ := callC X11 hx hZ hown (wq hw 1 rfl) (wq hw 2 rfl) (wq hw 3 rfl) (wq hw 4 rfl) (by decide) (kc := 0) (ks := 0) (Con.sb (W := 2) (rm_ch l hD p1 (8 : Int32) O0) hZ (wq hw 4 rfl) (wq hw 3 rfl) (by decide) (by decide)) e11 (g := (mkF m 163 #[vi p0, vi p1, vi p2, vi p3, vi p4, vi nl, vi ul, vi pm, vi cm, vr b1, .unset, .unset, .unset, .unset, .unset, .unset, .unset] [(.int 8), (.int p1), (.int 5), (.ref b1)])) rfl (by rw [hml]; rfl) (argsL := [(.int p1), (.int 8)]) (rest := [(.int 5), (.ref b1)]) (lenOf pd_18 rfl) rfl (by show 2 * 0 + _ ≤ _; exact Nat.le_of_eq rfl) (hb hby at_163) (by decide) (by decide)
  obtain ⟨z12, rfl, hz12, Nq12, Hq12⟩ := hQ12
  refine OEndsH.st st12 ?_
  replace N10 := Fr.app N10 Nq12
  replace e12 := e12.trans Hq12
  obtain ⟨cl_b1_13, Ar_b1_13, q_b1_13, S_b1_13, N_b1_13, H_b1_13, G_b1_13⟩ := V_b1_11
  obtain ⟨T13, h13, X13, e13, W13, st13⟩ := stC X12 hx hZ e12 Ar_b1_13 (j := (5 : Int32)) (inb_of S_b1_13 ⟨by decide, by decide⟩) (g := (mkF m 166 #[vi p0, vi p1, vi p2, vi p3, vi p4, vi nl, vi ul, vi pm, vi cm, vr b1, .unset, .unset, .unset, .unset, .unset, .unset, .unset] [(.int z12), (.int 5), (.ref b1)])) rfl rfl (hb hby at_166)
  have V_b1_13 : Arv Z h13 b1 k1 .char (9 : Int32) [(.int (nar .char y2)), (.int (nar .char y4)), (.int (nar .char y6)), (.int (nar .char y8)), (.int (nar .char y10)), (.int (nar .char z12)), (.int 0), (.int 0), (.int 0)] (.int 0) := Arv.set Ar_b1_13 q_b1_13 S_b1_13 N_b1_13 H_b1_13 G_b1_13 (fits_nar_char _) W13 5 rfl (Nat.le_of_ble_eq_true rfl)
  refine OEndsH.st st13 ?_
  have S_b1' : Safe Z EL vm0 h13 b1 := Safe.wr W13 S_b1 A0.1 S_b1
  have A' : CHr Z EL s.vm s.heap vm0 h13 := A0.trans (CHr.wr W13 S_b1 A0.1)
  replace S_b1 := S_b1'
  replace A0 := A'
  replace hk0 := Nat.le_trans hk0 (Keep.of_wr W13).1
  replace O0 : Ext Z.heap h13 := ext_wr O0 W13 ge_b1
  replace N10 := Fr.snoc X13 N10 ge_b1
  refine OEndsH.st (S' := T13.setTop (mkF m 174 #[vi p0, vi p1, vi p2, vi p3, vi p4, vi nl, vi ul, vi pm, vi cm, vr b1, .unset, .unset, .unset, .unset, .unset, .unset, .unset] [(.int 16), (.int p1), (.int 6), (.ref b1)])) (fun _ k => ?_) ?_
  · refine XS.aload X13.here hx rfl (hb hby at_167) rfl rfl ?_
    refine XS.bipush X13.here hx rfl (hb hby at_169) ?_
    refine XS.iloadN X13.here hx rfl (hb hby at_171) rfl ?_
    refine XS.bipush X13.here hx rfl (hb hby at_172) ?_
    exact k
  obtain ⟨_, T14, h14, L14, X14, e14, hQ14, st14⟩ := callC X13 hx hZ hown (wq hw 1 rfl) (wq hw 2 rfl) (wq hw 3 rfl) (wq hw 4 rfl) (by decide) (kc := 0) (ks := 0) (Con.sb (W := 2) (rm_ch l hD p1 (16 : Int32) O0) hZ (wq hw 4 rfl) (wq hw 3 rfl) (by decide) (by decide)) e13 (g := (mkF m 174 #[vi p0, vi p1, vi p2, vi p3, vi p4, vi nl, vi ul, vi pm, vi cm, vr b1, .unset, .unset, .unset, .unset, .unset, .unset, .unset] [(.int 16), (.int p1), (.int 6), (.ref b1)])) rfl (by rw [hml]; rfl) (argsL := [(.int p1), (.int 16)]) (rest := [(.int 6), (.ref b1)]) (lenOf pd_18 rfl) rfl (by show 2 * 0 + _ ≤ _; exact Nat.le_of_eq rfl) (hb hby at_174) (by decide) (by decide)
  obtain ⟨z14, rfl, hz14, Nq14, Hq14⟩ := hQ14
  refine OEndsH.st st14 ?_
  replace N10 := Fr.app N10 Nq14
  replace e14 := e14.trans Hq14
  obtain ⟨cl_b1_15, Ar_b1_15, q_b1_15, S_b1_15, N_b1_15, H_b1_15, G_b1_15⟩ := V_b1_13
  obtain ⟨T15, h15, X15, e15, W15, st15⟩ := stC X14 hx hZ e14 Ar_b1_15 (j := (6 : Int32)) (inb_of S_b1_15 ⟨by decide, by decide⟩) (g := (mkF m 177 #[vi p0, vi p1, vi p2, vi p3, vi p4, vi nl, vi ul, vi pm, vi cm, vr b1, .unset, .unset, .unset, .unset, .unset, .unset, .unset] [(.int z14), (.int 6), (.ref b1)])) rfl rfl (hb hby at_177)
  have V_b1_15 : Arv Z h15 b1 k1 .char (9 : Int32) [(.int (nar .char y2)), (.int (nar .char y4)), (.int (nar .char y6)), (.int (nar .char y8)), (.int (nar .char y10)), (.int (nar .char z12)), (.int (nar .char z14)), (.int 0), (.int 0)] (.int 0) := Arv.set Ar_b1_15 q_b1_15 S_b1_15 N_b1_15 H_b1_15 G_b1_15 (fits_nar_char _) W15 6 rfl (Nat.le_of_ble_eq_true rfl)
  refine OEndsH.st st15 ?_
  have S_b1' : Safe Z EL vm0 h15 b1 := Safe.wr W15 S_b1 A0.1 S_b1
  have A' : CHr Z EL s.vm s.heap vm0 h15 := A0.trans (CHr.wr W15 S_b1 A0.1)
  replace S_b1 := S_b1'
  replace A0 := A'
  replace hk0 := Nat.le_trans hk0 (Keep.of_wr W15).1
  replace O0 : Ext Z.heap h15 := ext_wr O0 W15 ge_b1
  replace N10 := Fr.snoc X15 N10 ge_b1
  refine OEndsH.st (S' := T15.setTop (mkF m 185 #[vi p0, vi p1, vi p2, vi p3, vi p4, vi nl, vi ul, vi pm, vi cm, vr b1, .unset, .unset, .unset, .unset, .unset, .unset, .unset] [(.int 24), (.int p1), (.int 7), (.ref b1)])) (fun _ k => ?_) ?_
  · refine XS.aload X15.here hx rfl (hb hby at_178) rfl rfl ?_
    refine XS.bipush X15.here hx rfl (hb hby at_180) ?_
    refine XS.iloadN X15.here hx rfl (hb hby at_182) rfl ?_
    refine XS.bipush X15.here hx rfl (hb hby at_183) ?_
    exact k
  obtain ⟨_, T16, h16, L16, X16, e16, hQ16, st16⟩ := callC X15 hx hZ hown (wq hw 1 rfl) (wq hw 2 rfl) (wq hw 3 rfl) (wq hw 4 rfl) (by decide) (kc := 0) (ks := 0) (Con.sb (W := 2) (rm_ch l hD p1 (24 : Int32) O0) hZ (wq hw 4 rfl) (wq hw 3 rfl) (by decide) (by decide)) e15 (g := (mkF m 185 #[vi p0, vi p1, vi p2, vi p3, vi p4, vi nl, vi ul, vi pm, vi cm, vr b1, .unset, .unset, .unset, .unset, .unset, .unset, .unset] [(.int 24), (.int p1), (.int 7), (.ref b1)])) rfl (by rw [hml]; rfl) (argsL := [(.int p1), (.int 24)]) (rest := [(.int 7), (.ref b1)]) (lenOf pd_18 rfl) rfl (by show 2 * 0 + _ ≤ _; exact Nat.le_of_eq rfl) (hb hby at_185) (by decide) (by decide)
  obtain ⟨z16, rfl, hz16, Nq16, Hq16⟩ := hQ16
  refine OEndsH.st st16 ?_
  replace N10 := Fr.app N10 Nq16
  replace e16 := e16.trans Hq16
  obtain ⟨cl_b1_17, Ar_b1_17, q_b1_17, S_b1_17, N_b1_17, H_b1_17, G_b1_17⟩ := V_b1_15
  obtain ⟨T17, h17, X17, e17, W17, st17⟩ := stC X16 hx hZ e16 Ar_b1_17 (j := (7 : Int32)) (inb_of S_b1_17 ⟨by decide, by decide⟩) (g := (mkF m 188 #[vi p0, vi p1, vi p2, vi p3, vi p4, vi nl, vi ul, vi pm, vi cm, vr b1, .unset, .unset, .unset, .unset, .unset, .unset, .unset] [(.int z16), (.int 7), (.ref b1)])) rfl rfl (hb hby at_188)
  have V_b1_17 : Arv Z h17 b1 k1 .char (9 : Int32) [(.int (nar .char y2)), (.int (nar .char y4)), (.int (nar .char y6)), (.int (nar .char y8)), (.int (nar .char y10)), (.int (nar .char z12)), (.int (nar .char z14)), (.int (nar .char z16)), (.int 0)] (.int 0) := Arv.set Ar_b1_17 q_b1_17 S_b1_17 N_b1_17 H_b1_17 G_b1_17 (fits_nar_char _) W17 7 rfl (Nat.le_of_ble_eq_true rfl)
  refine OEndsH.st st17 ?_
  have S_b1' : Safe Z EL vm0 h17 b1 := Safe.wr W17 S_b1 A0.1 S_b1
  have A' : CHr Z EL s.vm s.heap vm0 h17 := A0.trans (CHr.wr W17 S_b1 A0.1)
  replace S_b1 := S_b1'
  replace A0 := A'
  replace hk0 := Nat.le_trans hk0 (Keep.of_wr W17).1
  replace O0 : Ext Z.heap h17 := ext_wr O0 W17 ge_b1
  replace N10 := Fr.snoc X17 N10 ge_b1
  refine OEndsH.st (S' := T17.setTop (mkF m 195 #[vi p0, vi p1, vi p2, vi p3, vi p4, vi nl, vi ul, vi pm, vi cm, vr b1, .unset, .unset, .unset, .unset, .unset, .unset, .unset] [(.int 0), (.int p2), (.int 8), (.ref b1)])) (fun _ k => ?_) ?_
  · refine XS.aload X17.here hx rfl (hb hby at_189) rfl rfl ?_
    refine XS.bipush X17.here hx rfl (hb hby at_191) ?_
    refine XS.iloadN X17.here hx rfl (hb hby at_193) rfl ?_
    refine XS.iconst X17.here hx rfl (hb hby at_194) ?_
    exact k
  obtain ⟨_, T18, h18, L18, X18, e18, hQ18, st18⟩ := callC X17 hx hZ hown (wq hw 1 rfl) (wq hw 2 rfl) (wq hw 3 rfl) (wq hw 4 rfl) (by decide) (kc := 0) (ks := 0) (Con.sb (W := 2) (rm_ch l hD p2 (0 : Int32) O0) hZ (wq hw 4 rfl) (wq hw 3 rfl) (by decide) (by decide)) e17 (g := (mkF m 195 #[vi p0, vi p1, vi p2, vi p3, vi p4, vi nl, vi ul, vi pm, vi cm, vr b1, .unset, .unset, .unset, .unset, .unset, .unset, .unset] [(.int 0), (.int p2), (.int 8), (.ref b1)])) rfl (by rw [hml]; rfl) (argsL := [(.int p2), (.int 0)]) (rest := [(.int 8), (.ref b1)]) (lenOf pd_18 rfl) rfl (by show 2 * 0 + _ ≤ _; exact Nat.le_of_eq rfl) (hb hby at_195) (by decide) (by decide)
  obtain ⟨z18, rfl, hz18, Nq18, Hq18⟩ := hQ18
  refine OEndsH.st st18 ?_
  replace N10 := Fr.app N10 Nq18
  replace e18 := e18.trans Hq18
  obtain ⟨cl_b1_19, Ar_b1_19, q_b1_19, S_b1_19, N_b1_19, H_b1_19, G_b1_19⟩ := V_b1_17
  obtain ⟨T19, h19, X19, e19, W19, st19⟩ := stC X18 hx hZ e18 Ar_b1_19 (j := (8 : Int32)) (inb_of S_b1_19 ⟨by decide, by decide⟩) (g := (mkF m 198 #[vi p0, vi p1, vi p2, vi p3, vi p4, vi nl, vi ul, vi pm, vi cm, vr b1, .unset, .unset, .unset, .unset, .unset, .unset, .unset] [(.int z18), (.int 8), (.ref b1)])) rfl rfl (hb hby at_198)
  have V_b1_19 : Arv Z h19 b1 k1 .char (9 : Int32) [(.int (nar .char y2)), (.int (nar .char y4)), (.int (nar .char y6)), (.int (nar .char y8)), (.int (nar .char y10)), (.int (nar .char z12)), (.int (nar .char z14)), (.int (nar .char z16)), (.int (nar .char z18))] (.int 0) := Arv.set Ar_b1_19 q_b1_19 S_b1_19 N_b1_19 H_b1_19 G_b1_19 (fits_nar_char _) W19 8 rfl (Nat.le_of_ble_eq_true rfl)
  refine OEndsH.st st19 ?_
  have S_b1' : Safe Z EL vm0 h19 b1 := Safe.wr W19 S_b1 A0.1 S_b1
  have A' : CHr Z EL s.vm s.heap vm0 h19 := A0.trans (CHr.wr W19 S_b1 A0.1)
  replace S_b1 := S_b1'
  replace A0 := A'
  replace hk0 := Nat.le_trans hk0 (Keep.of_wr W19).1
  replace O0 : Ext Z.heap h19 := ext_wr O0 W19 ge_b1
  replace N10 := Fr.snoc X19 N10 ge_b1
  simp only [nar_char (x := y10) hy10, nar_char (x := y2) hy2, nar_char (x := y4) hy4, nar_char (x := y6) hy6, nar_char (x := y8) hy8, nar_char (x := z12) hz12, nar_char (x := z14) hz14, nar_char (x := z16) hz16, nar_char (x := z18) hz18] at V_b1_19
  replace V_b1_19 : Arv Z h19 b1 k1 .char (9 : Int32) [(.int y2), (.int y4), (.int y6), (.int y8), (.int y10), (.int z12), (.int z14), (.int z16), (.int z18)] (.int 0) := V_b1_19
  refine OEndsH.st (S' := T19.setTop (mkF m 201 #[vi p0, vi p1, vi p2, vi p3, vi p4, vi nl, vi ul, vi pm, vi cm, vr b1, .unset, .unset, .unset, .unset, .unset, .unset, .unset] [(.int 9)])) (fun _ k => ?_) ?_
  · refine XS.bipush X19.here hx rfl (hb hby at_199) ?_
    exact k
  obtain ⟨T20, h20, k20, X20, e20, E20, A20, st20⟩ := newP X19 hx hZ (wq hw 0 rfl) e19 (g := (mkF m 201 #[vi p0, vi p1, vi p2, vi p3, vi p4, vi nl, vi ul, vi pm, vi cm, vr b1, .unset, .unset, .unset, .unset, .unset, .unset, .unset] [(.int 9)])) rfl (hb hby at_201) rfl (by decide) (cap := 9) (by decide) (by decide) (by decide) (by decide)
  obtain ⟨b20, g20⟩ : ∃ z, z = h19.size := ⟨_, rfl⟩
  rw [← g20] at A20 st20
  refine OEndsH.st st20 ?_
  have ne_b1_b20 : b1 ≠ b20 := Nat.ne_of_lt (Nat.lt_of_lt_of_le V_b1_19.lt (Nat.le_of_eq g20.symm))
  have ge_b20 : Z.heap.size ≤ b20 := Nat.le_trans O0.1 (Nat.le_of_eq g20.symm)
  have S_b20 : Safe Z EL vm0 h19 b20 := Safe.new (Nat.le_of_eq g20.symm)
  replace V_b1_19 := V_b1_19.ext E20
  have S_b1' : Safe Z EL vm0 h20 b1 := Safe.ext E20 A0.1 S_b1
  have S_b20' : Safe Z EL vm0 h20 b20 := Safe.ext E20 A0.1 S_b20
  have A' : CHr Z EL s.vm s.heap vm0 h20 := A0.trans (CHr.ext E20 A0.1)
  replace S_b1 := S_b1'
  replace S_b20 := S_b20'
  replace A0 := A'
  replace hk0 := Nat.le_trans hk0 E20.1
  replace O0 : Ext Z.heap h20 := ext_trans O0 E20
  have V_b20 : Arv Z h20 b20 k20 .char (9 : Int32) [(.int 0), (.int 0), (.int 0), (.int 0), (.int 0), (.int 0), (.int 0), (.int 0), (.int 0)] (.int 0) := (Arv.new A20 (by decide)).pad (pad_rep [] (.int 0) 9)
  refine OEndsH.st (S' := T20.setTop (mkF m 212 #[vi p0, vi p1, vi p2, vi p3, vi p4, vi nl, vi ul, vi pm, vi cm, vr b1, vr b20, .unset, .unset, .unset, .unset, .unset, .unset] [(.int (cm &&& (1 : Int32))), (.int 0), (.ref b20)])) (fun _ k => ?_) ?_
  · refine XS.astore X20.here hx rfl (hb hby at_203) rfl rfl (l' := #[vi p0, vi p1, vi p2, vi p3, vi p4, vi nl, vi ul, vi pm, vi cm, vr b1, vr b20, .unset, .unset, .unset, .unset, .unset, .unset]) rfl ?_
    refine XS.aload X20.here hx rfl (hb hby at_205) rfl rfl ?_
    refine XS.iconst X20.here hx rfl (hb hby at_207) ?_
    refine XS.iload X20.here hx rfl (hb hby at_208) rfl ?_
    show Steps p.tables e below (T20.setTop (mkF m 210 #[vi p0, vi p1, vi p2, vi p3, vi p4, vi nl, vi ul, vi pm, vi cm, vr b1, vr b20, .unset, .unset, .unset, .unset, .unset, .unset] [(.int cm), (.int 0), (.ref b20)])) _
    refine XS.iconst X20.here hx rfl (hb hby at_210) ?_
    refine XS.iand X20.here hx rfl (hb hby at_211) rfl ?_
    exact k
  obtain ⟨_, ⟨y21, T21, lc21, hy21, X21, e21, N21, rfl⟩, st21⟩ : OJ p e below (fun S' => ∃ (y21 : Int32) (T' : State) (lc : List Loc), (¬ y21 < 0 ∧ ¬ (255 : Int32) < y21) ∧ Stand p l e room_1 (s.setVm vm0) m #[(.int p0), (.int p1), (.int p2), (.int p3), (.int p4)] below meth c T' lc 2 18 ∧ T'.heap = h20 ∧ Fr Z.heap.size lc ∧ S' = T'.setTop (mkF m 227 #[vi p0, vi p1, vi p2, vi p3, vi p4, vi nl, vi ul, vi pm, vi cm, vr b1, vr b20, .unset, .unset, .unset, .unset, .unset, .unset] [(.int y21), (.int 0), (.ref b20)])) (T20.setTop (mkF m 212 #[vi p0, vi p1, vi p2, vi p3, vi p4, vi nl, vi ul, vi pm, vi cm, vr b1, vr b20, .unset, .unset, .unset, .unset, .unset, .unset] [(.int (cm &&& (1 : Int32))), (.int 0), (.ref b20)])) := by
    rcases Classical.em ((cm &&& (1 : Int32)) = (0 : Int32)) with hq | hq
    · refine OJ.st (S' := T20.setTop (mkF m 224 #[vi p0, vi p1, vi p2, vi p3, vi p4, vi nl, vi ul, vi pm, vi cm, vr b1, vr b20, .unset, .unset, .unset, .unset, .unset, .unset] [(.int 0), (.int p3), (.int 0), (.ref b20)])) (fun _ k => ?_) ?_
      · refine XS.ifYes X20.here hx rfl (pc0 := 212) (pc' := 222) rfl (hb hby at_212) rfl ((if0 _ _).trans (teq hq).1) (by decide) (by decide) ?_
        refine XS.iloadN X20.here hx rfl (hb hby at_222) rfl ?_
        refine XS.iconst X20.here hx rfl (hb hby at_223) ?_
        exact k
      obtain ⟨_, T22, h22, L22, X22, e22, hQ22, st22⟩ := callC X20 hx hZ hown (wq hw 1 rfl) (wq hw 2 rfl) (wq hw 3 rfl) (wq hw 4 rfl) (by decide) (kc := 0) (ks := 0) (Con.sb (W := 2) (rm_ch l hD p3 (0 : Int32) O0) hZ (wq hw 4 rfl) (wq hw 3 rfl) (by decide) (by decide)) e20 (g := (mkF m 224 #[vi p0, vi p1, vi p2, vi p3, vi p4, vi nl, vi ul, vi pm, vi cm, vr b1, vr b20, .unset, .unset, .unset, .unset, .unset, .unset] [(.int 0), (.int p3), (.int 0), (.ref b20)])) rfl (by rw [hml]; rfl) (argsL := [(.int p3), (.int 0)]) (rest := [(.int 0), (.ref b20)]) (lenOf pd_18 rfl) rfl (by show 2 * 0 + _ ≤ _; exact Nat.le_of_eq rfl) (hb hby at_224) (by decide) (by decide)
      obtain ⟨z22, rfl, hz22, Nq22, Hq22⟩ := hQ22
      refine OJ.st st22 ?_
      replace N10 := Fr.app N10 Nq22
      replace e22 := e22.trans Hq22
      exact OJ.here ⟨z22, T22, _, hz22, X22, e22, N10, rfl⟩
    · refine OJ.st (S' := T20.setTop (mkF m 218 #[vi p0, vi p1, vi p2, vi p3, vi p4, vi nl, vi ul, vi pm, vi cm, vr b1, vr b20, .unset, .unset, .unset, .unset, .unset, .unset] [(.int 5), (.ref b1), (.int 0), (.ref b20)])) (fun _ k => ?_) ?_
      · refine XS.ifNo X20.here hx rfl (hb hby at_212) rfl ((if0 _ _).trans (feq hq).1) ?_
        refine XS.aload X20.here hx rfl (hb hby at_215) rfl rfl ?_
        refine XS.iconst X20.here hx rfl (hb hby at_217) ?_
        exact k
      obtain ⟨cl_b1_22, Ar_b1_22, q_b1_22, S_b1_22, N_b1_22, H_b1_22, G_b1_22⟩ := id V_b1_19
      refine OJ.st (S' := T20.setTop (mkF m 219 #[vi p0, vi p1, vi p2, vi p3, vi p4, vi nl, vi ul, vi pm, vi cm, vr b1, vr b20, .unset, .unset, .unset, .unset, .unset, .unset] [(.int z12), (.int 0), (.ref b20)])) (X20.caload hx (j := (5 : Int32)) (v := (.int z12)) (by rw [e20]; exact Ar_b1_22.1) (State.isArrayOf_alike hZ.alike Ar_b1_22.2.1) Ar_b1_22.2.2 (inb_of S_b1_22 ⟨by decide, by decide⟩) (H_b1_22.at (inb_of S_b1_22 ⟨by decide, by decide⟩) rfl) (g := (mkF m 218 #[vi p0, vi p1, vi p2, vi p3, vi p4, vi nl, vi ul, vi pm, vi cm, vr b1, vr b20, .unset, .unset, .unset, .unset, .unset, .unset] [(.int 5), (.ref b1), (.int 0), (.ref b20)])) rfl rfl (hb hby at_218)) ?_
      refine OJ.st (S' := T20.setTop (mkF m 227 #[vi p0, vi p1, vi p2, vi p3, vi p4, vi nl, vi ul, vi pm, vi cm, vr b1, vr b20, .unset, .unset, .unset, .unset, .unset, .unset] [(.int z12), (.int 0), (.ref b20)])) (fun _ k => ?_) ?_
      · refine XS.goto X20.here hx rfl (pc0 := 219) (pc' := 227) rfl (hb hby at_219) (by decide) (by decide) ?_
        exact k
      exact OJ.here ⟨z12, T20, _, hz12, X20, e20, N10, rfl⟩
  refine OEndsH.st st21 ?_
  obtain ⟨cl_b20_22, Ar_b20_22, q_b20_22, S_b20_22, N_b20_22, H_b20_22, G_b20_22⟩ := V_b20
  obtain ⟨T22, h22, X22, e22, W22, st22⟩ := stC X21 hx hZ e21 Ar_b20_22 (j := (0 : Int32)) (inb_of S_b20_22 ⟨by decide, by decide⟩) (g := (mkF m 227 #[vi p0, vi p1, vi p2, vi p3, vi p4, vi nl, vi ul, vi pm, vi cm, vr b1, vr b20, .unset, .unset, .unset, .unset, .unset, .unset] [(.int y21), (.int 0), (.ref b20)])) rfl rfl (hb hby at_227)
  have V_b20_22 : Arv Z h22 b20 k20 .char (9 : Int32) [(.int (nar .char y21)), (.int 0), (.int 0), (.int 0), (.int 0), (.int 0), (.int 0), (.int 0), (.int 0)] (.int 0) := Arv.set Ar_b20_22 q_b20_22 S_b20_22 N_b20_22 H_b20_22 G_b20_22 (fits_nar_char _) W22 0 rfl (Nat.le_of_ble_eq_true rfl)
  refine OEndsH.st st22 ?_
  replace V_b1_19 := V_b1_19.other W22 ne_b1_b20
  have S_b1' : Safe Z EL vm0 h22 b1 := Safe.wr W22 S_b20 A0.1 S_b1
  have S_b20' : Safe Z EL vm0 h22 b20 := Safe.wr W22 S_b20 A0.1 S_b20
  have A' : CHr Z EL s.vm s.heap vm0 h22 := A0.trans (CHr.wr W22 S_b20 A0.1)
  replace S_b1 := S_b1'
  replace S_b20 := S_b20'
  replace A0 := A'
  replace hk0 := Nat.le_trans hk0 (Keep.of_wr W22).1
  replace O0 : Ext Z.heap h22 := ext_wr O0 W22 ge_b20
  replace N21 := Fr.snoc X22 N21 ge_b20
  refine OEndsH.st (S' := T22.setTop (mkF m 235 #[vi p0, vi p1, vi p2, vi p3, vi p4, vi nl, vi ul, vi pm, vi cm, vr b1, vr b20, .unset, .unset, .unset, .unset, .unset, .unset] [(.int (cm &&& (2 : Int32))), (.int 1), (.ref b20)])) (fun _ k => ?_) ?_
  · refine XS.aload X22.here hx rfl (hb hby at_228) rfl rfl ?_
    refine XS.iconst X22.here hx rfl (hb hby at_230) ?_
    refine XS.iload X22.here hx rfl (hb hby at_231) rfl ?_
    refine XS.iconst X22.here hx rfl (hb hby at_233) ?_
    show Steps p.tables e below (T22.setTop (mkF m 234 #[vi p0, vi p1, vi p2, vi p3, vi p4, vi nl, vi ul, vi pm, vi cm, vr b1, vr b20, .unset, .unset, .unset, .unset, .unset, .unset] [(.int 2), (.int cm), (.int 1), (.ref b20)])) _
    refine XS.iand X22.here hx rfl (hb hby at_234) rfl ?_
    exact k
  obtain ⟨_, ⟨y23, T23, lc23, hy23, X23, e23, N23, rfl⟩, st23⟩ : OJ p e below (fun S' => ∃ (y23 : Int32) (T' : State) (lc : List Loc), (¬ y23 < 0 ∧ ¬ (255 : Int32) < y23) ∧ Stand p l e room_1 (s.setVm vm0) m #[(.int p0), (.int p1), (.int p2), (.int p3), (.int p4)] below meth c T' lc 2 18 ∧ T'.heap = h22 ∧ Fr Z.heap.size lc ∧ S' = T'.setTop (mkF m 252 #[vi p0, vi p1, vi p2, vi p3, vi p4, vi nl, vi ul, vi pm, vi cm, vr b1, vr b20, .unset, .unset, .unset, .unset, .unset, .unset] [(.int y23), (.int 1), (.ref b20)])) (T22.setTop (mkF m 235 #[vi p0, vi p1, vi p2, vi p3, vi p4, vi nl, vi ul, vi pm, vi cm, vr b1, vr b20, .unset, .unset, .unset, .unset, .unset, .unset] [(.int (cm &&& (2 : Int32))), (.int 1), (.ref b20)])) := by
    rcases Classical.em ((cm &&& (2 : Int32)) = (0 : Int32)) with hq | hq
    · refine OJ.st (S' := T22.setTop (mkF m 249 #[vi p0, vi p1, vi p2, vi p3, vi p4, vi nl, vi ul, vi pm, vi cm, vr b1, vr b20, .unset, .unset, .unset, .unset, .unset, .unset] [(.int 8), (.int p3), (.int 1), (.ref b20)])) (fun _ k => ?_) ?_
      · refine XS.ifYes X22.here hx rfl (pc0 := 235) (pc' := 246) rfl (hb hby at_235) rfl ((if0 _ _).trans (teq hq).1) (by decide) (by decide) ?_
        refine XS.iloadN X22.here hx rfl (hb hby at_246) rfl ?_
        refine XS.bipush X22.here hx rfl (hb hby at_247) ?_
        exact k
      obtain ⟨_, T24, h24, L24, X24, e24, hQ24, st24⟩ := callC X22 hx hZ hown (wq hw 1 rfl) (wq hw 2 rfl) (wq hw 3 rfl) (wq hw 4 rfl) (by decide) (kc := 0) (ks := 0) (Con.sb (W := 2) (rm_ch l hD p3 (8 : Int32) O0) hZ (wq hw 4 rfl) (wq hw 3 rfl) (by decide) (by decide)) e22 (g := (mkF m 249 #[vi p0, vi p1, vi p2, vi p3, vi p4, vi nl, vi ul, vi pm, vi cm, vr b1, vr b20, .unset, .unset, .unset, .unset, .unset, .unset] [(.int 8), (.int p3), (.int 1), (.ref b20)])) rfl (by rw [hml]; rfl) (argsL := [(.int p3), (.int 8)]) (rest := [(.int 1), (.ref b20)]) (lenOf pd_18 rfl) rfl (by show 2 * 0 + _ ≤ _; exact Nat.le_of_eq rfl) (hb hby at_249) (by decide) (by decide)
      obtain ⟨z24, rfl, hz24, Nq24, Hq24⟩ := hQ24
      refine OJ.st st24 ?_
      replace N21 := Fr.app N21 Nq24
      replace e24 := e24.trans Hq24
      exact OJ.here ⟨z24, T24, _, hz24, X24, e24, N21, rfl⟩
    · refine OJ.st (S' := T22.setTop (mkF m 242 #[vi p0, vi p1, vi p2, vi p3, vi p4, vi nl, vi ul, vi pm, vi cm, vr b1, vr b20, .unset, .unset, .unset, .unset, .unset, .unset] [(.int 6), (.ref b1), (.int 1), (.ref b20)])) (fun _ k => ?_) ?_
      · refine XS.ifNo X22.here hx rfl (hb hby at_235) rfl ((if0 _ _).trans (feq hq).1) ?_
        refine XS.aload X22.here hx rfl (hb hby at_238) rfl rfl ?_
        refine XS.bipush X22.here hx rfl (hb hby at_240) ?_
        exact k
      obtain ⟨cl_b1_24, Ar_b1_24, q_b1_24, S_b1_24, N_b1_24, H_b1_24, G_b1_24⟩ := id V_b1_19
      refine OJ.st (S' := T22.setTop (mkF m 243 #[vi p0, vi p1, vi p2, vi p3, vi p4, vi nl, vi ul, vi pm, vi cm, vr b1, vr b20, .unset, .unset, .unset, .unset, .unset, .unset] [(.int z14), (.int 1), (.ref b20)])) (X22.caload hx (j := (6 : Int32)) (v := (.int z14)) (by rw [e22]; exact Ar_b1_24.1) (State.isArrayOf_alike hZ.alike Ar_b1_24.2.1) Ar_b1_24.2.2 (inb_of S_b1_24 ⟨by decide, by decide⟩) (H_b1_24.at (inb_of S_b1_24 ⟨by decide, by decide⟩) rfl) (g := (mkF m 242 #[vi p0, vi p1, vi p2, vi p3, vi p4, vi nl, vi ul, vi pm, vi cm, vr b1, vr b20, .unset, .unset, .unset, .unset, .unset, .unset] [(.int 6), (.ref b1), (.int 1), (.ref b20)])) rfl rfl (hb hby at_242)) ?_
      refine OJ.st (S' := T22.setTop (mkF m 252 #[vi p0, vi p1, vi p2, vi p3, vi p4, vi nl, vi ul, vi pm, vi cm, vr b1, vr b20, .unset, .unset, .unset, .unset, .unset, .unset] [(.int z14), (.int 1), (.ref b20)])) (fun _ k => ?_) ?_
      · refine XS.goto X22.here hx rfl (pc0 := 243) (pc' := 252) rfl (hb hby at_243) (by decide) (by decide) ?_
        exact k
      exact OJ.here ⟨z14, T22, _, hz14, X22, e22, N21, rfl⟩
  refine OEndsH.st st23 ?_
  obtain ⟨cl_b20_24, Ar_b20_24, q_b20_24, S_b20_24, N_b20_24, H_b20_24, G_b20_24⟩ := V_b20_22
  obtain ⟨T24, h24, X24, e24, W24, st24⟩ := stC X23 hx hZ e23 Ar_b20_24 (j := (1 : Int32)) (inb_of S_b20_24 ⟨by decide, by decide⟩) (g := (mkF m 252 #[vi p0, vi p1, vi p2, vi p3, vi p4, vi nl, vi ul, vi pm, vi cm, vr b1, vr b20, .unset, .unset, .unset, .unset, .unset, .unset] [(.int y23), (.int 1), (.ref b20)])) rfl rfl (hb hby at_252)
  have V_b20_24 : Arv Z h24 b20 k20 .char (9 : Int32) [(.int (nar .char y21)), (.int (nar .char y23)), (.int 0), (.int 0), (.int 0), (.int 0), (.int 0), (.int 0), (.int 0)] (.int 0) := Arv.set Ar_b20_24 q_b20_24 S_b20_24 N_b20_24 H_b20_24 G_b20_24 (fits_nar_char _) W24 1 rfl (Nat.le_of_ble_eq_true rfl)
  refine OEndsH.st st24 ?_
  replace V_b1_19 := V_b1_19.other W24 ne_b1_b20
  have S_b1' : Safe Z EL vm0 h24 b1 := Safe.wr W24 S_b20 A0.1 S_b1
  have S_b20' : Safe Z EL vm0 h24 b20 := Safe.wr W24 S_b20 A0.1 S_b20
  have A' : CHr Z EL s.vm s.heap vm0 h24 := A0.trans (CHr.wr W24 S_b20 A0.1)
  replace S_b1 := S_b1'
  replace S_b20 := S_b20'
  replace A0 := A'
  replace hk0 := Nat.le_trans hk0 (Keep.of_wr W24).1
  replace O0 : Ext Z.heap h24 := ext_wr O0 W24 ge_b20
  replace N23 := Fr.snoc X24 N23 ge_b20
  refine OEndsH.st (S' := T24.setTop (mkF m 260 #[vi p0, vi p1, vi p2, vi p3, vi p4, vi nl, vi ul, vi pm, vi cm, vr b1, vr b20, .unset, .unset, .unset, .unset, .unset, .unset] [(.int (cm &&& (4 : Int32))), (.int 2), (.ref b20)])) (fun _ k => ?_) ?_
  · refine XS.aload X24.here hx rfl (hb hby at_253) rfl rfl ?_
    refine XS.iconst X24.here hx rfl (hb hby at_255) ?_
    refine XS.iload X24.here hx rfl (hb hby at_256) rfl ?_
    refine XS.iconst X24.here hx rfl (hb hby at_258) ?_
    show Steps p.tables e below (T24.setTop (mkF m 259 #[vi p0, vi p1, vi p2, vi p3, vi p4, vi nl, vi ul, vi pm, vi cm, vr b1, vr b20, .unset, .unset, .unset, .unset, .unset, .unset] [(.int 4), (.int cm), (.int 2), (.ref b20)])) _
    refine XS.iand X24.here hx rfl (hb hby at_259) rfl ?_
    exact k
  obtain ⟨_, ⟨y25, T25, lc25, hy25, X25, e25, N25, rfl⟩, st25⟩ : OJ p e below (fun S' => ∃ (y25 : Int32) (T' : State) (lc : List Loc), (¬ y25 < 0 ∧ ¬ (255 : Int32) < y25) ∧ Stand p l e room_1 (s.setVm vm0) m #[(.int p0), (.int p1), (.int p2), (.int p3), (.int p4)] below meth c T' lc 2 18 ∧ T'.heap = h24 ∧ Fr Z.heap.size lc ∧ S' = T'.setTop (mkF m 277 #[vi p0, vi p1, vi p2, vi p3, vi p4, vi nl, vi ul, vi pm, vi cm, vr b1, vr b20, .unset, .unset, .unset, .unset, .unset, .unset] [(.int y25), (.int 2), (.ref b20)])) (T24.setTop (mkF m 260 #[vi p0, vi p1, vi p2, vi p3, vi p4, vi nl, vi ul, vi pm, vi cm, vr b1, vr b20, .unset, .unset, .unset, .unset, .unset, .unset] [(.int (cm &&& (4 : Int32))), (.int 2), (.ref b20)])) := by
    rcases Classical.em ((cm &&& (4 : Int32)) = (0 : Int32)) with hq | hq
    · refine OJ.st (S' := T24.setTop (mkF m 274 #[vi p0, vi p1, vi p2, vi p3, vi p4, vi nl, vi ul, vi pm, vi cm, vr b1, vr b20, .unset, .unset, .unset, .unset, .unset, .unset] [(.int 16), (.int p3), (.int 2), (.ref b20)])) (fun _ k => ?_) ?_
      · refine XS.ifYes X24.here hx rfl (pc0 := 260) (pc' := 271) rfl (hb hby at_260) rfl ((if0 _ _).trans (teq hq).1) (by decide) (by decide) ?_
        refine XS.iloadN X24.here hx rfl (hb hby at_271) rfl ?_
        refine XS.bipush X24.here hx rfl (hb hby at_272) ?_
        exact k
      obtain ⟨_, T26, h26, L26, X26, e26, hQ26, st26⟩ := callC X24 hx hZ hown (wq hw 1 rfl) (wq hw 2 rfl) (wq hw 3 rfl) (wq hw 4 rfl) (by decide) (kc := 0) (ks := 0) (Con.sb (W := 2) (rm_ch l hD p3 (16 : Int32) O0) hZ (wq hw 4 rfl) (wq hw 3 rfl) (by decide) (by decide)) e24 (g := (mkF m 274 #[vi p0, vi p1, vi p2, vi p3, vi p4, vi nl, vi ul, vi pm, vi cm, vr b1, vr b20, .unset, .unset, .unset, .unset, .unset, .unset] [(.int 16), (.int p3), (.int 2), (.ref b20)])) rfl (by rw [hml]; rfl) (argsL := [(.int p3), (.int 16)]) (rest := [(.int 2), (.ref b20)]) (lenOf pd_18 rfl) rfl (by show 2 * 0 + _ ≤ _; exact Nat.le_of_eq rfl) (hb hby at_274) (by decide) (by decide)
      obtain ⟨z26, rfl, hz26, Nq26, Hq26⟩ := hQ26
      refine OJ.st st26 ?_
      replace N23 := Fr.app N23 Nq26
      replace e26 := e26.trans Hq26
      exact OJ.here ⟨z26, T26, _, hz26, X26, e26, N23, rfl⟩
    · refine OJ.st (S' := T24.setTop (mkF m 267 #[vi p0, vi p1, vi p2, vi p3, vi p4, vi nl, vi ul, vi pm, vi cm, vr b1, vr b20, .unset, .unset, .unset, .unset, .unset, .unset] [(.int 7), (.ref b1), (.int 2), (.ref b20)])) (fun _ k => ?_) ?_
      · refine XS.ifNo X24.here hx rfl (hb hby at_260) rfl ((if0 _ _).trans (feq hq).1) ?_
        refine XS.aload X24.here hx rfl (hb hby at_263) rfl rfl ?_
        refine XS.bipush X24.here hx rfl (hb hby at_265) ?_
        exact k
      obtain ⟨cl_b1_26, Ar_b1_26, q_b1_26, S_b1_26, N_b1_26, H_b1_26, G_b1_26⟩ := id V_b1_19
      refine OJ.st (S' := T24.setTop (mkF m 268 #[vi p0, vi p1, vi p2, vi p3, vi p4, vi nl, vi ul, vi pm, vi cm, vr b1, vr b20, .unset, .unset, .unset, .unset, .unset, .unset] [(.int z16), (.int 2), (.ref b20)])) (X24.caload hx (j := (7 : Int32)) (v := (.int z16)) (by rw [e24]; exact Ar_b1_26.1) (State.isArrayOf_alike hZ.alike Ar_b1_26.2.1) Ar_b1_26.2.2 (inb_of S_b1_26 ⟨by decide, by decide⟩) (H_b1_26.at (inb_of S_b1_26 ⟨by decide, by decide⟩) rfl) (g := (mkF m 267 #[vi p0, vi p1, vi p2, vi p3, vi p4, vi nl, vi ul, vi pm, vi cm, vr b1, vr b20, .unset, .unset, .unset, .unset, .unset, .unset] [(.int 7), (.ref b1), (.int 2), (.ref b20)])) rfl rfl (hb hby at_267)) ?_
      refine OJ.st (S' := T24.setTop (mkF m 277 #[vi p0, vi p1, vi p2, vi p3, vi p4, vi nl, vi ul, vi pm, vi cm, vr b1, vr b20, .unset, .unset, .unset, .unset, .unset, .unset] [(.int z16), (.int 2), (.ref b20)])) (fun _ k => ?_) ?_
      · refine XS.goto X24.here hx rfl (pc0 := 268) (pc' := 277) rfl (hb hby at_268) (by decide) (by decide) ?_
        exact k
      exact OJ.here ⟨z16, T24, _, hz16, X24, e24, N23, rfl⟩
  refine OEndsH.st st25 ?_
  obtain ⟨cl_b20_26, Ar_b20_26, q_b20_26, S_b20_26, N_b20_26, H_b20_26, G_b20_26⟩ := V_b20_24
  obtain ⟨T26, h26, X26, e26, W26, st26⟩ := stC X25 hx hZ e25 Ar_b20_26 (j := (2 : Int32)) (inb_of S_b20_26 ⟨by decide, by decide⟩) (g := (mkF m 277 #[vi p0, vi p1, vi p2, vi p3, vi p4, vi nl, vi ul, vi pm, vi cm, vr b1, vr b20, .unset, .unset, .unset, .unset, .unset, .unset] [(.int y25), (.int 2), (.ref b20)])) rfl rfl (hb hby at_277)
  have V_b20_26 : Arv Z h26 b20 k20 .char (9 : Int32) [(.int (nar .char y21)), (.int (nar .char y23)), (.int (nar .char y25)), (.int 0), (.int 0), (.int 0), (.int 0), (.int 0), (.int 0)] (.int 0) := Arv.set Ar_b20_26 q_b20_26 S_b20_26 N_b20_26 H_b20_26 G_b20_26 (fits_nar_char _) W26 2 rfl (Nat.le_of_ble_eq_true rfl)
  refine OEndsH.st st26 ?_
  replace V_b1_19 := V_b1_19.other W26 ne_b1_b20
  have S_b1' : Safe Z EL vm0 h26 b1 := Safe.wr W26 S_b20 A0.1 S_b1
  have S_b20' : Safe Z EL vm0 h26 b20 := Safe.wr W26 S_b20 A0.1 S_b20
  have A' : CHr Z EL s.vm s.heap vm0 h26 := A0.trans (CHr.wr W26 S_b20 A0.1)
  replace S_b1 := S_b1'
  replace S_b20 := S_b20'
  replace A0 := A'
  replace hk0 := Nat.le_trans hk0 (Keep.of_wr W26).1
  replace O0 : Ext Z.heap h26 := ext_wr O0 W26 ge_b20
  replace N25 := Fr.snoc X26 N25 ge_b20
  refine OEndsH.st (S' := T26.setTop (mkF m 286 #[vi p0, vi p1, vi p2, vi p3, vi p4, vi nl, vi ul, vi pm, vi cm, vr b1, vr b20, .unset, .unset, .unset, .unset, .unset, .unset] [(.int (cm &&& (8 : Int32))), (.int 3), (.ref b20)])) (fun _ k => ?_) ?_
  · refine XS.aload X26.here hx rfl (hb hby at_278) rfl rfl ?_
    refine XS.iconst X26.here hx rfl (hb hby at_280) ?_
    refine XS.iload X26.here hx rfl (hb hby at_281) rfl ?_
    refine XS.bipush X26.here hx rfl (hb hby at_283) ?_
    show Steps p.tables e below (T26.setTop (mkF m 285 #[vi p0, vi p1, vi p2, vi p3, vi p4, vi nl, vi ul, vi pm, vi cm, vr b1, vr b20, .unset, .unset, .unset, .unset, .unset, .unset] [(.int 8), (.int cm), (.int 3), (.ref b20)])) _
    refine XS.iand X26.here hx rfl (hb hby at_285) rfl ?_
    exact k
  obtain ⟨_, ⟨y27, T27, lc27, hy27, X27, e27, N27, rfl⟩, st27⟩ : OJ p e below (fun S' => ∃ (y27 : Int32) (T' : State) (lc : List Loc), (¬ y27 < 0 ∧ ¬ (255 : Int32) < y27) ∧ Stand p l e room_1 (s.setVm vm0) m #[(.int p0), (.int p1), (.int p2), (.int p3), (.int p4)] below meth c T' lc 2 18 ∧ T'.heap = h26 ∧ Fr Z.heap.size lc ∧ S' = T'.setTop (mkF m 303 #[vi p0, vi p1, vi p2, vi p3, vi p4, vi nl, vi ul, vi pm, vi cm, vr b1, vr b20, .unset, .unset, .unset, .unset, .unset, .unset] [(.int y27), (.int 3), (.ref b20)])) (T26.setTop (mkF m 286 #[vi p0, vi p1, vi p2, vi p3, vi p4, vi nl, vi ul, vi pm, vi cm, vr b1, vr b20, .unset, .unset, .unset, .unset, .unset, .unset] [(.int (cm &&& (8 : Int32))), (.int 3), (.ref b20)])) := by
    rcases Classical.em ((cm &&& (8 : Int32)) = (0 : Int32)) with hq | hq
    · refine OJ.st (S' := T26.setTop (mkF m 300 #[vi p0, vi p1, vi p2, vi p3, vi p4, vi nl, vi ul, vi pm, vi cm, vr b1, vr b20, .unset, .unset, .unset, .unset, .unset, .unset] [(.int 24), (.int p3), (.int 3), (.ref b20)])) (fun _ k => ?_) ?_
      · refine XS.ifYes X26.here hx rfl (pc0 := 286) (pc' := 297) rfl (hb hby at_286) rfl ((if0 _ _).trans (teq hq).1) (by decide) (by decide) ?_
        refine XS.iloadN X26.here hx rfl (hb hby at_297) rfl ?_
        refine XS.bipush X26.here hx rfl (hb hby at_298) ?_
        exact k
      obtain ⟨_, T28, h28, L28, X28, e28, hQ28, st28⟩ := callC X26 hx hZ hown (wq hw 1 rfl) (wq hw 2 rfl) (wq hw 3 rfl) (wq hw 4 rfl) (by decide) (kc := 0) (ks := 0) (Con.sb (W := 2) (rm_ch l hD p3 (24 : Int32) O0) hZ (wq hw 4 rfl) (wq hw 3 rfl) (by decide) (by decide)) e26 (g := (mkF m 300 #[vi p0, vi p1, vi p2, vi p3, vi p4, vi nl, vi ul, vi pm, vi cm, vr b1, vr b20, .unset, .unset, .unset, .unset, .unset, .unset] [(.int 24), (.int p3), (.int 3), (.ref b20)])) rfl (by rw [hml]; rfl) (argsL := [(.int p3), (.int 24)]) (rest := [(.int 3), (.ref b20)]) (lenOf pd_18 rfl) rfl (by show 2 * 0 + _ ≤ _; exact Nat.le_of_eq rfl) (hb hby at_300) (by decide) (by decide)
      obtain ⟨z28, rfl, hz28, Nq28, Hq28⟩ := hQ28
      refine OJ.st st28 ?_
      replace N25 := Fr.app N25 Nq28
      replace e28 := e28.trans Hq28
      exact OJ.here ⟨z28, T28, _, hz28, X28, e28, N25, rfl⟩
    · refine OJ.st (S' := T26.setTop (mkF m 293 #[vi p0, vi p1, vi p2, vi p3, vi p4, vi nl, vi ul, vi pm, vi cm, vr b1, vr b20, .unset, .unset, .unset, .unset, .unset, .unset] [(.int 8), (.ref b1), (.int 3), (.ref b20)])) (fun _ k => ?_) ?_
      · refine XS.ifNo X26.here hx rfl (hb hby at_286) rfl ((if0 _ _).trans (feq hq).1) ?_
        refine XS.aload X26.here hx rfl (hb hby at_289) rfl rfl ?_
        refine XS.bipush X26.here hx rfl (hb hby at_291) ?_
        exact k
      obtain ⟨cl_b1_28, Ar_b1_28, q_b1_28, S_b1_28, N_b1_28, H_b1_28, G_b1_28⟩ := id V_b1_19
      refine OJ.st (S' := T26.setTop (mkF m 294 #[vi p0, vi p1, vi p2, vi p3, vi p4, vi nl, vi ul, vi pm, vi cm, vr b1, vr b20, .unset, .unset, .unset, .unset, .unset, .unset] [(.int z18), (.int 3), (.ref b20)])) (X26.caload hx (j := (8 : Int32)) (v := (.int z18)) (by rw [e26]; exact Ar_b1_28.1) (State.isArrayOf_alike hZ.alike Ar_b1_28.2.1) Ar_b1_28.2.2 (inb_of S_b1_28 ⟨by decide, by decide⟩) (H_b1_28.at (inb_of S_b1_28 ⟨by decide, by decide⟩) rfl) (g := (mkF m 293 #[vi p0, vi p1, vi p2, vi p3, vi p4, vi nl, vi ul, vi pm, vi cm, vr b1, vr b20, .unset, .unset, .unset, .unset, .unset, .unset] [(.int 8), (.ref b1), (.int 3), (.ref b20)])) rfl rfl (hb hby at_293)) ?_
      refine OJ.st (S' := T26.setTop (mkF m 303 #[vi p0, vi p1, vi p2, vi p3, vi p4, vi nl, vi ul, vi pm, vi cm, vr b1, vr b20, .unset, .unset, .unset, .unset, .unset, .unset] [(.int z18), (.int 3), (.ref b20)])) (fun _ k => ?_) ?_
      · refine XS.goto X26.here hx rfl (pc0 := 294) (pc' := 303) rfl (hb hby at_294) (by decide) (by decide) ?_
        exact k
      exact OJ.here ⟨z18, T26, _, hz18, X26, e26, N25, rfl⟩
  refine OEndsH.st st27 ?_
  obtain ⟨cl_b20_28, Ar_b20_28, q_b20_28, S_b20_28, N_b20_28, H_b20_28, G_b20_28⟩ := V_b20_26
  obtain ⟨T28, h28, X28, e28, W28, st28⟩ := stC X27 hx hZ e27 Ar_b20_28 (j := (3 : Int32)) (inb_of S_b20_28 ⟨by decide, by decide⟩) (g := (mkF m 303 #[vi p0, vi p1, vi p2, vi p3, vi p4, vi nl, vi ul, vi pm, vi cm, vr b1, vr b20, .unset, .unset, .unset, .unset, .unset, .unset] [(.int y27), (.int 3), (.ref b20)])) rfl rfl (hb hby at_303)
  have V_b20_28 : Arv Z h28 b20 k20 .char (9 : Int32) [(.int (nar .char y21)), (.int (nar .char y23)), (.int (nar .char y25)), (.int (nar .char y27)), (.int 0), (.int 0), (.int 0), (.int 0), (.int 0)] (.int 0) := Arv.set Ar_b20_28 q_b20_28 S_b20_28 N_b20_28 H_b20_28 G_b20_28 (fits_nar_char _) W28 3 rfl (Nat.le_of_ble_eq_true rfl)
  refine OEndsH.st st28 ?_
  replace V_b1_19 := V_b1_19.other W28 ne_b1_b20
  have S_b1' : Safe Z EL vm0 h28 b1 := Safe.wr W28 S_b20 A0.1 S_b1
  have S_b20' : Safe Z EL vm0 h28 b20 := Safe.wr W28 S_b20 A0.1 S_b20
  have A' : CHr Z EL s.vm s.heap vm0 h28 := A0.trans (CHr.wr W28 S_b20 A0.1)
  replace S_b1 := S_b1'
  replace S_b20 := S_b20'
  replace A0 := A'
  replace hk0 := Nat.le_trans hk0 (Keep.of_wr W28).1
  replace O0 : Ext Z.heap h28 := ext_wr O0 W28 ge_b20
  replace N27 := Fr.snoc X28 N27 ge_b20
  simp only [nar_char (x := y21) hy21, nar_char (x := y23) hy23, nar_char (x := y25) hy25, nar_char (x := y27) hy27] at V_b20_28
  replace V_b20_28 : Arv Z h28 b20 k20 .char (9 : Int32) [(.int y21), (.int y23), (.int y25), (.int y27), (.int 0), (.int 0), (.int 0), (.int 0), (.int 0)] (.int 0) := V_b20_28
  refine OEndsH.st (S' := T28.setTop (mkF m 308 #[vi p0, vi p1, vi p2, vi p3, vi p4, vi nl, vi ul, vi pm, vi cm, vr b1, vr b20, .unset, .unset, .unset, .unset, .unset, .unset] [(.int nl), (.ref b1)])) (fun _ k => ?_) ?_
  · refine XS.aload X28.here hx rfl (hb hby at_304) rfl rfl ?_
    refine XS.iload X28.here hx rfl (hb hby at_306) rfl ?_
    exact k
  obtain ⟨_, T29, h29, L29, vm29, k129, X29, e29, hQ29, hS29, hk29, hZ29, hown29, Aq29, st29⟩ := callH X28 hx hZ hown (wq hw 5 rfl) (wq hw 6 rfl) (wq hw 3 rfl) (wq hw 7 rfl) (by decide) (kc := 6) (ks := 22) (ConH.sb (W := 0) (rm_take l hD b1 nl k1 y2 y4 y6 y8 y10 z12 z14 z16 z18 O0 V_b1_19 hy2 hy4 hy6 hy8 hy10 hz12 hz14 hz16 hz18 hnl) hZ (wq hw 7 rfl) (wq hw 3 rfl) (by decide) (by decide) hEL A0.1 all0) e28 hS0 hk0 (g := (mkF m 308 #[vi p0, vi p1, vi p2, vi p3, vi p4, vi nl, vi ul, vi pm, vi cm, vr b1, vr b20, .unset, .unset, .unset, .unset, .unset, .unset] [(.int nl), (.ref b1)])) rfl (by rw [hml]; rfl) (argsL := [(.ref b1), (.int nl)]) (rest := []) (lenOf pd_19 rfl) rfl (by show 2 * 0 + _ ≤ _; exact Nat.le_of_eq rfl) (hb hby at_308) (by decide) (by decide)
  obtain ⟨r29, n29, rfl, Nq29, Kq29, hn929, hln29, Eq29, Fc29, tq29, kq29, Fv29, V29⟩ := hQ29
  replace S_b1 : Safe Z EL vm29 h29 b1 := Aq29.safe V_b1_19.lt S_b1
  replace S_b20 : Safe Z EL vm29 h29 b20 := Aq29.safe V_b20_28.lt S_b20
  replace A0 : CHr Z EL s.vm s.heap vm29 h29 := A0.trans Aq29
  refine OEndsH.st st29 ?_
  replace N27 := Fr.app N27 Nq29
  replace V_b1_19 := V_b1_19.keep Kq29 nin0
  replace V_b20_28 := V_b20_28.keep Kq29 nin0
  replace O0 : Ext Z.heap h29 := ext_keep O0 Kq29 all0
  refine OEndsH.st (S' := T29.setTop (mkF m 317 #[vi p0, vi p1, vi p2, vi p3, vi p4, vi nl, vi ul, vi pm, vi cm, vr b1, vr b20, vr r29, .unset, .unset, .unset, .unset, .unset] [(.int ul), (.ref b20)])) (fun _ k => ?_) ?_
  · refine XS.astore X29.here hx rfl (hb hby at_311) rfl rfl (l' := #[vi p0, vi p1, vi p2, vi p3, vi p4, vi nl, vi ul, vi pm, vi cm, vr b1, vr b20, vr r29, .unset, .unset, .unset, .unset, .unset]) rfl ?_
    refine XS.aload X29.here hx rfl (hb hby at_313) rfl rfl ?_
    refine XS.iload X29.here hx rfl (hb hby at_315) rfl ?_
    exact k
  obtain ⟨_, T30, h30, L30, vm30, k130, X30, e30, hQ30, hS30, hk30, hZ30, hown30, Aq30, st30⟩ := callH X29 hx hZ29 hown29 (wq hw 5 rfl) (wq hw 6 rfl) (wq hw 3 rfl) (wq hw 7 rfl) (by decide) (kc := 6) (ks := 22) (ConH.sb (W := 0) (rm_take l hD b20 ul k20 y21 y23 y25 y27 (0 : Int32) (0 : Int32) (0 : Int32) (0 : Int32) (0 : Int32) O0 V_b20_28 hy21 hy23 hy25 hy27 ⟨by decide, by decide⟩ ⟨by decide, by decide⟩ ⟨by decide, by decide⟩ ⟨by decide, by decide⟩ ⟨by decide, by decide⟩ (up9 hul)) hZ29 (wq hw 7 rfl) (wq hw 3 rfl) (by decide) (by decide) hEL A0.1 all0) e29 hS29 hk29 (g := (mkF m 317 #[vi p0, vi p1, vi p2, vi p3, vi p4, vi nl, vi ul, vi pm, vi cm, vr b1, vr b20, vr r29, .unset, .unset, .unset, .unset, .unset] [(.int ul), (.ref b20)])) rfl (by rw [hml]; rfl) (argsL := [(.ref b20), (.int ul)]) (rest := []) (lenOf pd_19 rfl) rfl (by show 2 * 0 + _ ≤ _; exact Nat.le_of_eq rfl) (hb hby at_317) (by decide) (by decide)
  obtain ⟨r30, n30, rfl, Nq30, Kq30, hn930, hln30, Eq30, Fc30, tq30, kq30, Fv30, V30⟩ := hQ30
  replace S_b1 : Safe Z EL vm30 h30 b1 := Aq30.safe V_b1_19.lt S_b1
  replace S_b20 : Safe Z EL vm30 h30 b20 := Aq30.safe V_b20_28.lt S_b20
  replace A0 : CHr Z EL s.vm s.heap vm30 h30 := A0.trans Aq30
  refine OEndsH.st st30 ?_
  replace N27 := Fr.app N27 Nq30
  replace V_b1_19 := V_b1_19.keep Kq30 nin0
  replace V_b20_28 := V_b20_28.keep Kq30 nin0
  replace Fc29 := Fc29.keep Kq30 nin0
  replace Fv29 := Fv29.keep Kq30 nin0
  replace V29 := V29.keep Kq30 nin0
  replace Eq29 := Eq29.keep Kq30
  replace O0 : Ext Z.heap h30 := ext_keep O0 Kq30 all0
  have hbx : (∀ c ∈ ([y2, y4, y6, y8, y10, z12, z14, z16, z18] : List Int32), ¬ c < 0 ∧ ¬ (255 : Int32) < c) := by
    intro c hc; simp only [List.mem_cons, List.not_mem_nil, or_false] at hc
    rcases hc with rfl | rfl | rfl | rfl | rfl | rfl | rfl | rfl | rfl
    · exact hy2
    · exact hy4
    · exact hy6
    · exact hy8
    · exact hy10
    · exact hz12
    · exact hz14
    · exact hz16
    · exact hz18
  have hbu : (∀ c ∈ ([y21, y23, y25, y27, (0 : Int32), (0 : Int32), (0 : Int32), (0 : Int32), (0 : Int32)] : List Int32), ¬ c < 0 ∧ ¬ (255 : Int32) < c) := by
    intro c hc; simp only [List.mem_cons, List.not_mem_nil, or_false] at hc
    rcases hc with rfl | rfl | rfl | rfl | rfl | rfl | rfl | rfl | rfl
    · exact hy21
    · exact hy23
    · exact hy25
    · exact hy27
    · exact ⟨by decide, by decide⟩
    · exact ⟨by decide, by decide⟩
    · exact ⟨by decide, by decide⟩
    · exact ⟨by decide, by decide⟩
    · exact ⟨by decide, by decide⟩
  refine OEndsH.st (S' := T30.setTop (mkF m 326 #[vi p0, vi p1, vi p2, vi p3, vi p4, vi nl, vi ul, vi pm, vi cm, vr b1, vr b20, vr r29, vr r30, .unset, .unset, .unset, .unset] [(.ref r30), (.ref r29)])) (fun _ k => ?_) ?_
  · refine XS.astore X30.here hx rfl (hb hby at_320) rfl rfl (l' := #[vi p0, vi p1, vi p2, vi p3, vi p4, vi nl, vi ul, vi pm, vi cm, vr b1, vr b20, vr r29, vr r30, .unset, .unset, .unset, .unset]) rfl ?_
    refine XS.aload X30.here hx rfl (hb hby at_322) rfl rfl ?_
    refine XS.aload X30.here hx rfl (hb hby at_324) rfl rfl ?_
    exact k
  obtain ⟨_, T31, h31, L31, vm31, k131, X31, e31, hQ31, hS31, hk31, hZ31, hown31, Aq31, st31⟩ := callH X30 hx hZ30 hown30 (wq hw 29 rfl) (wq hw 30 rfl) (wq hw 31 rfl) (wq hw 32 rfl) (by decide) (kc := 6) (ks := 56) (ConH.sb (W := 0) (rm_isOpen l hD r29 r30 tq29 tq30 kq29 kq30 n29 n30 (List.take n29 [y2, y4, y6, y8, y10, z12, z14, z16, z18]) (List.take n30 [y21, y23, y25, y27, (0 : Int32), (0 : Int32), (0 : Int32), (0 : Int32), (0 : Int32)]) O0 Eq29 Fc29 Fv29 V29 Eq30 Fc30 Fv30 V30 (by simp; omega) (by simp; omega) hn929 hn930 (bd_take hbx) (bd_take hbu)) hZ30 (wq hw 32 rfl) (wq hw 31 rfl) (by decide) (by decide) hEL A0.1 all0) e30 hS30 hk30 (g := (mkF m 326 #[vi p0, vi p1, vi p2, vi p3, vi p4, vi nl, vi ul, vi pm, vi cm, vr b1, vr b20, vr r29, vr r30, .unset, .unset, .unset, .unset] [(.ref r30), (.ref r29)])) rfl (by rw [hml]; rfl) (argsL := [(.ref r29), (.ref r30)]) (rest := []) (lenOf pd_20 rfl) rfl (by show 2 * 0 + _ ≤ _; exact Nat.le_of_eq rfl) (hb hby at_326) (by decide) (by decide)
  obtain ⟨r31, rfl, hr31, Nq31, Kq31⟩ := hQ31
  replace S_b1 : Safe Z EL vm31 h31 b1 := Aq31.safe V_b1_19.lt S_b1
  replace S_b20 : Safe Z EL vm31 h31 b20 := Aq31.safe V_b20_28.lt S_b20
  replace A0 : CHr Z EL s.vm s.heap vm31 h31 := A0.trans Aq31
  refine OEndsH.st st31 ?_
  replace N27 := Fr.app N27 Nq31
  replace V_b1_19 := V_b1_19.keep Kq31 nin0
  replace V_b20_28 := V_b20_28.keep Kq31 nin0
  replace Fc29 := Fc29.keep Kq31 nin0
  replace Fv29 := Fv29.keep Kq31 nin0
  replace V29 := V29.keep Kq31 nin0
  replace Eq29 := Eq29.keep Kq31
  replace Fc30 := Fc30.keep Kq31 nin0
  replace Fv30 := Fv30.keep Kq31 nin0
  replace V30 := V30.keep Kq31 nin0
  replace Eq30 := Eq30.keep Kq31
  replace O0 : Ext Z.heap h31 := ext_keep O0 Kq31 all0
  refine OEndsH.st (S' := T31.setTop (mkF m 331 #[vi p0, vi p1, vi p2, vi p3, vi p4, vi nl, vi ul, vi pm, vi cm, vr b1, vr b20, vr r29, vr r30, vi r31, .unset, .unset, .unset] [])) (fun _ k => ?_) ?_
  · refine XS.istore X31.here hx rfl (hb hby at_329) rfl (l' := #[vi p0, vi p1, vi p2, vi p3, vi p4, vi nl, vi ul, vi pm, vi cm, vr b1, vr b20, vr r29, vr r30, vi r31, .unset, .unset, .unset]) rfl ?_
    exact k
  obtain ⟨_, ⟨y32, T32, lc32, hy32, X32, e32, N32, rfl⟩, st32⟩ : OJ p e below (fun S' => ∃ (y32 : Int32) (T' : State) (lc : List Loc), ((y32 = 1 ∧ PreL nl y2 y4 y6 y8 y10) ∨ (y32 = 0 ∧ ¬ PreL nl y2 y4 y6 y8 y10)) ∧ Stand p l e room_1 (s.setVm vm31) m #[(.int p0), (.int p1), (.int p2), (.int p3), (.int p4)] below meth c T' lc 20 118 ∧ T'.heap = h31 ∧ Fr Z.heap.size lc ∧ S' = T'.setTop (mkF m 387 #[vi p0, vi p1, vi p2, vi p3, vi p4, vi nl, vi ul, vi pm, vi cm, vr b1, vr b20, vr r29, vr r30, vi r31, .unset, .unset, .unset] [(.int y32)])) (T31.setTop (mkF m 331 #[vi p0, vi p1, vi p2, vi p3, vi p4, vi nl, vi ul, vi pm, vi cm, vr b1, vr b20, vr r29, vr r30, vi r31, .unset, .unset, .unset] [])) := by
    refine OJ.st (S' := T31.setTop (mkF m 334 #[vi p0, vi p1, vi p2, vi p3, vi p4, vi nl, vi ul, vi pm, vi cm, vr b1, vr b20, vr r29, vr r30, vi r31, .unset, .unset, .unset] [(.int 5), (.int nl)])) (fun _ k => ?_) ?_
    · refine XS.iload X31.here hx rfl (hb hby at_331) rfl ?_
      refine XS.iconst X31.here hx rfl (hb hby at_333) ?_
      exact k
    rcases Classical.em (nl < (5 : Int32)) with pf0 | pf0
    · refine OJ.st (S' := T31.setTop (mkF m 387 #[vi p0, vi p1, vi p2, vi p3, vi p4, vi nl, vi ul, vi pm, vi cm, vr b1, vr b20, vr r29, vr r30, vi r31, .unset, .unset, .unset] [(.int 0)])) (fun _ k => ?_) ?_
      · refine XS.icmpYes X31.here hx rfl (pc0 := 334) (pc' := 386) rfl (hb hby at_334) rfl (tlt pf0).1 (by decide) (by decide) ?_
        refine XS.iconst X31.here hx rfl (hb hby at_386) ?_
        exact k
      exact OJ.here ⟨(0 : Int32), T31, _, Or.inr ⟨rfl, fun q => q.1 pf0⟩, X31, e31, N27, rfl⟩
    · refine OJ.st (S' := T31.setTop (mkF m 340 #[vi p0, vi p1, vi p2, vi p3, vi p4, vi nl, vi ul, vi pm, vi cm, vr b1, vr b20, vr r29, vr r30, vi r31, .unset, .unset, .unset] [(.int 0), (.ref b1)])) (fun _ k => ?_) ?_
      · refine XS.icmpNo X31.here hx rfl (hb hby at_334) rfl (flt pf0).1 ?_
        refine XS.aload X31.here hx rfl (hb hby at_337) rfl rfl ?_
        refine XS.iconst X31.here hx rfl (hb hby at_339) ?_
        exact k
      obtain ⟨cl_b1_33, Ar_b1_33, q_b1_33, S_b1_33, N_b1_33, H_b1_33, G_b1_33⟩ := id V_b1_19
      refine OJ.st (S' := T31.setTop (mkF m 341 #[vi p0, vi p1, vi p2, vi p3, vi p4, vi nl, vi ul, vi pm, vi cm, vr b1, vr b20, vr r29, vr r30, vi r31, .unset, .unset, .unset] [(.int y2)])) (X31.caload hx (j := (0 : Int32)) (v := (.int y2)) (by rw [e31]; exact Ar_b1_33.1) (State.isArrayOf_alike hZ31.alike Ar_b1_33.2.1) Ar_b1_33.2.2 (inb_of S_b1_33 ⟨by decide, by decide⟩) (H_b1_33.at (inb_of S_b1_33 ⟨by decide, by decide⟩) rfl) (g := (mkF m 340 #[vi p0, vi p1, vi p2, vi p3, vi p4, vi nl, vi ul, vi pm, vi cm, vr b1, vr b20, vr r29, vr r30, vi r31, .unset, .unset, .unset] [(.int 0), (.ref b1)])) rfl rfl (hb hby at_340)) ?_
      refine OJ.st (S' := T31.setTop (mkF m 343 #[vi p0, vi p1, vi p2, vi p3, vi p4, vi nl, vi ul, vi pm, vi cm, vr b1, vr b20, vr r29, vr r30, vi r31, .unset, .unset, .unset] [(.int 117), (.int y2)])) (fun _ k => ?_) ?_
      · refine XS.bipush X31.here hx rfl (hb hby at_341) ?_
        exact k
      rcases Classical.em (y2 = (117 : Int32)) with pf1 | pf1
      · refine OJ.st (S' := T31.setTop (mkF m 349 #[vi p0, vi p1, vi p2, vi p3, vi p4, vi nl, vi ul, vi pm, vi cm, vr b1, vr b20, vr r29, vr r30, vi r31, .unset, .unset, .unset] [(.int 1), (.ref b1)])) (fun _ k => ?_) ?_
        · refine XS.icmpNo X31.here hx rfl (hb hby at_343) rfl (teq pf1).2 ?_
          refine XS.aload X31.here hx rfl (hb hby at_346) rfl rfl ?_
          refine XS.iconst X31.here hx rfl (hb hby at_348) ?_
          exact k
        obtain ⟨cl_b1_34, Ar_b1_34, q_b1_34, S_b1_34, N_b1_34, H_b1_34, G_b1_34⟩ := id V_b1_19
        refine OJ.st (S' := T31.setTop (mkF m 350 #[vi p0, vi p1, vi p2, vi p3, vi p4, vi nl, vi ul, vi pm, vi cm, vr b1, vr b20, vr r29, vr r30, vi r31, .unset, .unset, .unset] [(.int y4)])) (X31.caload hx (j := (1 : Int32)) (v := (.int y4)) (by rw [e31]; exact Ar_b1_34.1) (State.isArrayOf_alike hZ31.alike Ar_b1_34.2.1) Ar_b1_34.2.2 (inb_of S_b1_34 ⟨by decide, by decide⟩) (H_b1_34.at (inb_of S_b1_34 ⟨by decide, by decide⟩) rfl) (g := (mkF m 349 #[vi p0, vi p1, vi p2, vi p3, vi p4, vi nl, vi ul, vi pm, vi cm, vr b1, vr b20, vr r29, vr r30, vi r31, .unset, .unset, .unset] [(.int 1), (.ref b1)])) rfl rfl (hb hby at_349)) ?_
        refine OJ.st (S' := T31.setTop (mkF m 352 #[vi p0, vi p1, vi p2, vi p3, vi p4, vi nl, vi ul, vi pm, vi cm, vr b1, vr b20, vr r29, vr r30, vi r31, .unset, .unset, .unset] [(.int 115), (.int y4)])) (fun _ k => ?_) ?_
        · refine XS.bipush X31.here hx rfl (hb hby at_350) ?_
          exact k
        rcases Classical.em (y4 = (115 : Int32)) with pf2 | pf2
        · refine OJ.st (S' := T31.setTop (mkF m 358 #[vi p0, vi p1, vi p2, vi p3, vi p4, vi nl, vi ul, vi pm, vi cm, vr b1, vr b20, vr r29, vr r30, vi r31, .unset, .unset, .unset] [(.int 2), (.ref b1)])) (fun _ k => ?_) ?_
          · refine XS.icmpNo X31.here hx rfl (hb hby at_352) rfl (teq pf2).2 ?_
            refine XS.aload X31.here hx rfl (hb hby at_355) rfl rfl ?_
            refine XS.iconst X31.here hx rfl (hb hby at_357) ?_
            exact k
          obtain ⟨cl_b1_35, Ar_b1_35, q_b1_35, S_b1_35, N_b1_35, H_b1_35, G_b1_35⟩ := id V_b1_19
          refine OJ.st (S' := T31.setTop (mkF m 359 #[vi p0, vi p1, vi p2, vi p3, vi p4, vi nl, vi ul, vi pm, vi cm, vr b1, vr b20, vr r29, vr r30, vi r31, .unset, .unset, .unset] [(.int y6)])) (X31.caload hx (j := (2 : Int32)) (v := (.int y6)) (by rw [e31]; exact Ar_b1_35.1) (State.isArrayOf_alike hZ31.alike Ar_b1_35.2.1) Ar_b1_35.2.2 (inb_of S_b1_35 ⟨by decide, by decide⟩) (H_b1_35.at (inb_of S_b1_35 ⟨by decide, by decide⟩) rfl) (g := (mkF m 358 #[vi p0, vi p1, vi p2, vi p3, vi p4, vi nl, vi ul, vi pm, vi cm, vr b1, vr b20, vr r29, vr r30, vi r31, .unset, .unset, .unset] [(.int 2), (.ref b1)])) rfl rfl (hb hby at_358)) ?_
          refine OJ.st (S' := T31.setTop (mkF m 361 #[vi p0, vi p1, vi p2, vi p3, vi p4, vi nl, vi ul, vi pm, vi cm, vr b1, vr b20, vr r29, vr r30, vi r31, .unset, .unset, .unset] [(.int 101), (.int y6)])) (fun _ k => ?_) ?_
          · refine XS.bipush X31.here hx rfl (hb hby at_359) ?_
            exact k
          rcases Classical.em (y6 = (101 : Int32)) with pf3 | pf3
          · refine OJ.st (S' := T31.setTop (mkF m 367 #[vi p0, vi p1, vi p2, vi p3, vi p4, vi nl, vi ul, vi pm, vi cm, vr b1, vr b20, vr r29, vr r30, vi r31, .unset, .unset, .unset] [(.int 3), (.ref b1)])) (fun _ k => ?_) ?_
            · refine XS.icmpNo X31.here hx rfl (hb hby at_361) rfl (teq pf3).2 ?_
              refine XS.aload X31.here hx rfl (hb hby at_364) rfl rfl ?_
              refine XS.iconst X31.here hx rfl (hb hby at_366) ?_
              exact k
            obtain ⟨cl_b1_36, Ar_b1_36, q_b1_36, S_b1_36, N_b1_36, H_b1_36, G_b1_36⟩ := id V_b1_19
            refine OJ.st (S' := T31.setTop (mkF m 368 #[vi p0, vi p1, vi p2, vi p3, vi p4, vi nl, vi ul, vi pm, vi cm, vr b1, vr b20, vr r29, vr r30, vi r31, .unset, .unset, .unset] [(.int y8)])) (X31.caload hx (j := (3 : Int32)) (v := (.int y8)) (by rw [e31]; exact Ar_b1_36.1) (State.isArrayOf_alike hZ31.alike Ar_b1_36.2.1) Ar_b1_36.2.2 (inb_of S_b1_36 ⟨by decide, by decide⟩) (H_b1_36.at (inb_of S_b1_36 ⟨by decide, by decide⟩) rfl) (g := (mkF m 367 #[vi p0, vi p1, vi p2, vi p3, vi p4, vi nl, vi ul, vi pm, vi cm, vr b1, vr b20, vr r29, vr r30, vi r31, .unset, .unset, .unset] [(.int 3), (.ref b1)])) rfl rfl (hb hby at_367)) ?_
            refine OJ.st (S' := T31.setTop (mkF m 370 #[vi p0, vi p1, vi p2, vi p3, vi p4, vi nl, vi ul, vi pm, vi cm, vr b1, vr b20, vr r29, vr r30, vi r31, .unset, .unset, .unset] [(.int 114), (.int y8)])) (fun _ k => ?_) ?_
            · refine XS.bipush X31.here hx rfl (hb hby at_368) ?_
              exact k
            rcases Classical.em (y8 = (114 : Int32)) with pf4 | pf4
            · refine OJ.st (S' := T31.setTop (mkF m 376 #[vi p0, vi p1, vi p2, vi p3, vi p4, vi nl, vi ul, vi pm, vi cm, vr b1, vr b20, vr r29, vr r30, vi r31, .unset, .unset, .unset] [(.int 4), (.ref b1)])) (fun _ k => ?_) ?_
              · refine XS.icmpNo X31.here hx rfl (hb hby at_370) rfl (teq pf4).2 ?_
                refine XS.aload X31.here hx rfl (hb hby at_373) rfl rfl ?_
                refine XS.iconst X31.here hx rfl (hb hby at_375) ?_
                exact k
              obtain ⟨cl_b1_37, Ar_b1_37, q_b1_37, S_b1_37, N_b1_37, H_b1_37, G_b1_37⟩ := id V_b1_19
              refine OJ.st (S' := T31.setTop (mkF m 377 #[vi p0, vi p1, vi p2, vi p3, vi p4, vi nl, vi ul, vi pm, vi cm, vr b1, vr b20, vr r29, vr r30, vi r31, .unset, .unset, .unset] [(.int y10)])) (X31.caload hx (j := (4 : Int32)) (v := (.int y10)) (by rw [e31]; exact Ar_b1_37.1) (State.isArrayOf_alike hZ31.alike Ar_b1_37.2.1) Ar_b1_37.2.2 (inb_of S_b1_37 ⟨by decide, by decide⟩) (H_b1_37.at (inb_of S_b1_37 ⟨by decide, by decide⟩) rfl) (g := (mkF m 376 #[vi p0, vi p1, vi p2, vi p3, vi p4, vi nl, vi ul, vi pm, vi cm, vr b1, vr b20, vr r29, vr r30, vi r31, .unset, .unset, .unset] [(.int 4), (.ref b1)])) rfl rfl (hb hby at_376)) ?_
              refine OJ.st (S' := T31.setTop (mkF m 379 #[vi p0, vi p1, vi p2, vi p3, vi p4, vi nl, vi ul, vi pm, vi cm, vr b1, vr b20, vr r29, vr r30, vi r31, .unset, .unset, .unset] [(.int 58), (.int y10)])) (fun _ k => ?_) ?_
              · refine XS.bipush X31.here hx rfl (hb hby at_377) ?_
                exact k
              rcases Classical.em (y10 = (58 : Int32)) with pf5 | pf5
              · refine OJ.st (S' := T31.setTop (mkF m 387 #[vi p0, vi p1, vi p2, vi p3, vi p4, vi nl, vi ul, vi pm, vi cm, vr b1, vr b20, vr r29, vr r30, vi r31, .unset, .unset, .unset] [(.int 1)])) (fun _ k => ?_) ?_
                · refine XS.icmpNo X31.here hx rfl (hb hby at_379) rfl (teq pf5).2 ?_
                  refine XS.iconst X31.here hx rfl (hb hby at_382) ?_
                  refine XS.goto X31.here hx rfl (pc0 := 383) (pc' := 387) rfl (hb hby at_383) (by decide) (by decide) ?_
                  exact k
                exact OJ.here ⟨(1 : Int32), T31, _, Or.inl ⟨rfl, pf0, pf1, pf2, pf3, pf4, pf5⟩, X31, e31, N27, rfl⟩
              · refine OJ.st (S' := T31.setTop (mkF m 387 #[vi p0, vi p1, vi p2, vi p3, vi p4, vi nl, vi ul, vi pm, vi cm, vr b1, vr b20, vr r29, vr r30, vi r31, .unset, .unset, .unset] [(.int 0)])) (fun _ k => ?_) ?_
                · refine XS.icmpYes X31.here hx rfl (pc0 := 379) (pc' := 386) rfl (hb hby at_379) rfl (feq pf5).2 (by decide) (by decide) ?_
                  refine XS.iconst X31.here hx rfl (hb hby at_386) ?_
                  exact k
                exact OJ.here ⟨(0 : Int32), T31, _, Or.inr ⟨rfl, fun q => pf5 q.2.2.2.2.2⟩, X31, e31, N27, rfl⟩
            · refine OJ.st (S' := T31.setTop (mkF m 387 #[vi p0, vi p1, vi p2, vi p3, vi p4, vi nl, vi ul, vi pm, vi cm, vr b1, vr b20, vr r29, vr r30, vi r31, .unset, .unset, .unset] [(.int 0)])) (fun _ k => ?_) ?_
              · refine XS.icmpYes X31.here hx rfl (pc0 := 370) (pc' := 386) rfl (hb hby at_370) rfl (feq pf4).2 (by decide) (by decide) ?_
                refine XS.iconst X31.here hx rfl (hb hby at_386) ?_
                exact k
              exact OJ.here ⟨(0 : Int32), T31, _, Or.inr ⟨rfl, fun q => pf4 q.2.2.2.2.1⟩, X31, e31, N27, rfl⟩
          · refine OJ.st (S' := T31.setTop (mkF m 387 #[vi p0, vi p1, vi p2, vi p3, vi p4, vi nl, vi ul, vi pm, vi cm, vr b1, vr b20, vr r29, vr r30, vi r31, .unset, .unset, .unset] [(.int 0)])) (fun _ k => ?_) ?_
            · refine XS.icmpYes X31.here hx rfl (pc0 := 361) (pc' := 386) rfl (hb hby at_361) rfl (feq pf3).2 (by decide) (by decide) ?_
              refine XS.iconst X31.here hx rfl (hb hby at_386) ?_
              exact k
            exact OJ.here ⟨(0 : Int32), T31, _, Or.inr ⟨rfl, fun q => pf3 q.2.2.2.1⟩, X31, e31, N27, rfl⟩
        · refine OJ.st (S' := T31.setTop (mkF m 387 #[vi p0, vi p1, vi p2, vi p3, vi p4, vi nl, vi ul, vi pm, vi cm, vr b1, vr b20, vr r29, vr r30, vi r31, .unset, .unset, .unset] [(.int 0)])) (fun _ k => ?_) ?_
          · refine XS.icmpYes X31.here hx rfl (pc0 := 352) (pc' := 386) rfl (hb hby at_352) rfl (feq pf2).2 (by decide) (by decide) ?_
            refine XS.iconst X31.here hx rfl (hb hby at_386) ?_
            exact k
          exact OJ.here ⟨(0 : Int32), T31, _, Or.inr ⟨rfl, fun q => pf2 q.2.2.1⟩, X31, e31, N27, rfl⟩
      · refine OJ.st (S' := T31.setTop (mkF m 387 #[vi p0, vi p1, vi p2, vi p3, vi p4, vi nl, vi ul, vi pm, vi cm, vr b1, vr b20, vr r29, vr r30, vi r31, .unset, .unset, .unset] [(.int 0)])) (fun _ k => ?_) ?_
        · refine XS.icmpYes X31.here hx rfl (pc0 := 343) (pc' := 386) rfl (hb hby at_343) rfl (feq pf1).2 (by decide) (by decide) ?_
          refine XS.iconst X31.here hx rfl (hb hby at_386) ?_
          exact k
        exact OJ.here ⟨(0 : Int32), T31, _, Or.inr ⟨rfl, fun q => pf1 q.2.1⟩, X31, e31, N27, rfl⟩
  refine OEndsH.st st32 ?_
  refine OEndsH.st (S' := T32.setTop (mkF m 389 #[vi p0, vi p1, vi p2, vi p3, vi p4, vi nl, vi ul, vi pm, vi cm, vr b1, vr b20, vr r29, vr r30, vi r31, vi y32, .unset, .unset] [])) (fun _ k => ?_) ?_
  · refine XS.istore X32.here hx rfl (hb hby at_387) rfl (l' := #[vi p0, vi p1, vi p2, vi p3, vi p4, vi nl, vi ul, vi pm, vi cm, vr b1, vr b20, vr r29, vr r30, vi r31, vi y32, .unset, .unset]) rfl ?_
    exact k
  obtain ⟨_, ⟨y33, T33, lc33, hy33, X33, e33, N33, rfl⟩, st33⟩ : OJ p e below (fun S' => ∃ (y33 : Int32) (T' : State) (lc : List Loc), ((y33 = 1 ∧ SameL nl ul z12 z14 z16 z18 y21 y23 y25 y27) ∨ (y33 = 0 ∧ ¬ SameL nl ul z12 z14 z16 z18 y21 y23 y25 y27)) ∧ Stand p l e room_1 (s.setVm vm31) m #[(.int p0), (.int p1), (.int p2), (.int p3), (.int p4)] below meth c T' lc 20 118 ∧ T'.heap = h31 ∧ Fr Z.heap.size lc ∧ S' = T'.setTop (mkF m 474 #[vi p0, vi p1, vi p2, vi p3, vi p4, vi nl, vi ul, vi pm, vi cm, vr b1, vr b20, vr r29, vr r30, vi r31, vi y32, .unset, .unset] [(.int y33)])) (T32.setTop (mkF m 389 #[vi p0, vi p1, vi p2, vi p3, vi p4, vi nl, vi ul, vi pm, vi cm, vr b1, vr b20, vr r29, vr r30, vi r31, vi y32, .unset, .unset] [])) := by
    refine OJ.st (S' := T32.setTop (mkF m 395 #[vi p0, vi p1, vi p2, vi p3, vi p4, vi nl, vi ul, vi pm, vi cm, vr b1, vr b20, vr r29, vr r30, vi r31, vi y32, .unset, .unset] [(.int ul), (.int (nl - (5 : Int32)))])) (fun _ k => ?_) ?_
    · refine XS.iload X32.here hx rfl (hb hby at_389) rfl ?_
      refine XS.iconst X32.here hx rfl (hb hby at_391) ?_
      refine XS.isub X32.here hx rfl (hb hby at_392) rfl ?_
      refine XS.iload X32.here hx rfl (hb hby at_393) rfl ?_
      exact k
    rcases Classical.em ((nl - (5 : Int32)) = ul) with pf0 | pf0
    · refine OJ.st (S' := T32.setTop (mkF m 401 #[vi p0, vi p1, vi p2, vi p3, vi p4, vi nl, vi ul, vi pm, vi cm, vr b1, vr b20, vr r29, vr r30, vi r31, vi y32, .unset, .unset] [(.int 1), (.int ul)])) (fun _ k => ?_) ?_
      · refine XS.icmpNo X32.here hx rfl (hb hby at_395) rfl (teq pf0).2 ?_
        refine XS.iload X32.here hx rfl (hb hby at_398) rfl ?_
        refine XS.iconst X32.here hx rfl (hb hby at_400) ?_
        exact k
      rcases Classical.em (ul < (1 : Int32)) with l1 | l1
      · refine OJ.st (S' := T32.setTop (mkF m 474 #[vi p0, vi p1, vi p2, vi p3, vi p4, vi nl, vi ul, vi pm, vi cm, vr b1, vr b20, vr r29, vr r30, vi r31, vi y32, .unset, .unset] [(.int 1)])) (fun _ k => ?_) ?_
        · refine XS.icmpYes X32.here hx rfl (pc0 := 401) (pc' := 415) rfl (hb hby at_401) rfl (tlt l1).1 (by decide) (by decide) ?_
          refine XS.iload X32.here hx rfl (hb hby at_415) rfl ?_
          refine XS.iconst X32.here hx rfl (hb hby at_417) ?_
          refine XS.icmpYes X32.here hx rfl (pc0 := 418) (pc' := 433) rfl (hb hby at_418) rfl (tlt (lt_up l1 (by decide))).1 (by decide) (by decide) ?_
          show Steps p.tables e below (T32.setTop (mkF m 433 #[vi p0, vi p1, vi p2, vi p3, vi p4, vi nl, vi ul, vi pm, vi cm, vr b1, vr b20, vr r29, vr r30, vi r31, vi y32, .unset, .unset] [])) _
          refine XS.iload X32.here hx rfl (hb hby at_433) rfl ?_
          refine XS.iconst X32.here hx rfl (hb hby at_435) ?_
          refine XS.icmpYes X32.here hx rfl (pc0 := 436) (pc' := 451) rfl (hb hby at_436) rfl (tlt (lt_up l1 (by decide))).1 (by decide) (by decide) ?_
          refine XS.iload X32.here hx rfl (hb hby at_451) rfl ?_
          show Steps p.tables e below (T32.setTop (mkF m 453 #[vi p0, vi p1, vi p2, vi p3, vi p4, vi nl, vi ul, vi pm, vi cm, vr b1, vr b20, vr r29, vr r30, vi r31, vi y32, .unset, .unset] [(.int ul)])) _
          refine XS.iconst X32.here hx rfl (hb hby at_453) ?_
          refine XS.icmpYes X32.here hx rfl (pc0 := 454) (pc' := 469) rfl (hb hby at_454) rfl (tlt (lt_up l1 (by decide))).1 (by decide) (by decide) ?_
          refine XS.iconst X32.here hx rfl (hb hby at_469) ?_
          refine XS.goto X32.here hx rfl (pc0 := 470) (pc' := 474) rfl (hb hby at_470) (by decide) (by decide) ?_
          exact k
        exact OJ.here ⟨(1 : Int32), T32, _, Or.inl ⟨rfl, pf0, Or.inl l1, Or.inl (lt_up l1 (by decide)), Or.inl (lt_up l1 (by decide)), Or.inl (lt_up l1 (by decide))⟩, X32, e32, N32, rfl⟩
      · refine OJ.st (S' := T32.setTop (mkF m 407 #[vi p0, vi p1, vi p2, vi p3, vi p4, vi nl, vi ul, vi pm, vi cm, vr b1, vr b20, vr r29, vr r30, vi r31, vi y32, .unset, .unset] [(.int 0), (.ref b20)])) (fun _ k => ?_) ?_
        · refine XS.icmpNo X32.here hx rfl (hb hby at_401) rfl (flt l1).1 ?_
          refine XS.aload X32.here hx rfl (hb hby at_404) rfl rfl ?_
          refine XS.iconst X32.here hx rfl (hb hby at_406) ?_
          exact k
        obtain ⟨cl_b20_34, Ar_b20_34, q_b20_34, S_b20_34, N_b20_34, H_b20_34, G_b20_34⟩ := id V_b20_28
        refine OJ.st (S' := T32.setTop (mkF m 408 #[vi p0, vi p1, vi p2, vi p3, vi p4, vi nl, vi ul, vi pm, vi cm, vr b1, vr b20, vr r29, vr r30, vi r31, vi y32, .unset, .unset] [(.int y21)])) (X32.caload hx (j := (0 : Int32)) (v := (.int y21)) (by rw [e32]; exact Ar_b20_34.1) (State.isArrayOf_alike hZ31.alike Ar_b20_34.2.1) Ar_b20_34.2.2 (inb_of S_b20_34 ⟨by decide, by decide⟩) (H_b20_34.at (inb_of S_b20_34 ⟨by decide, by decide⟩) rfl) (g := (mkF m 407 #[vi p0, vi p1, vi p2, vi p3, vi p4, vi nl, vi ul, vi pm, vi cm, vr b1, vr b20, vr r29, vr r30, vi r31, vi y32, .unset, .unset] [(.int 0), (.ref b20)])) rfl rfl (hb hby at_407)) ?_
        refine OJ.st (S' := T32.setTop (mkF m 411 #[vi p0, vi p1, vi p2, vi p3, vi p4, vi nl, vi ul, vi pm, vi cm, vr b1, vr b20, vr r29, vr r30, vi r31, vi y32, .unset, .unset] [(.int 5), (.ref b1), (.int y21)])) (fun _ k => ?_) ?_
        · refine XS.aload X32.here hx rfl (hb hby at_408) rfl rfl ?_
          refine XS.iconst X32.here hx rfl (hb hby at_410) ?_
          exact k
        obtain ⟨cl_b1_35, Ar_b1_35, q_b1_35, S_b1_35, N_b1_35, H_b1_35, G_b1_35⟩ := id V_b1_19
        refine OJ.st (S' := T32.setTop (mkF m 412 #[vi p0, vi p1, vi p2, vi p3, vi p4, vi nl, vi ul, vi pm, vi cm, vr b1, vr b20, vr r29, vr r30, vi r31, vi y32, .unset, .unset] [(.int z12), (.int y21)])) (X32.caload hx (j := (5 : Int32)) (v := (.int z12)) (by rw [e32]; exact Ar_b1_35.1) (State.isArrayOf_alike hZ31.alike Ar_b1_35.2.1) Ar_b1_35.2.2 (inb_of S_b1_35 ⟨by decide, by decide⟩) (H_b1_35.at (inb_of S_b1_35 ⟨by decide, by decide⟩) rfl) (g := (mkF m 411 #[vi p0, vi p1, vi p2, vi p3, vi p4, vi nl, vi ul, vi pm, vi cm, vr b1, vr b20, vr r29, vr r30, vi r31, vi y32, .unset, .unset] [(.int 5), (.ref b1), (.int y21)])) rfl rfl (hb hby at_411)) ?_
        rcases Classical.em (y21 = z12) with e1 | e1
        · refine OJ.st (S' := T32.setTop (mkF m 418 #[vi p0, vi p1, vi p2, vi p3, vi p4, vi nl, vi ul, vi pm, vi cm, vr b1, vr b20, vr r29, vr r30, vi r31, vi y32, .unset, .unset] [(.int 2), (.int ul)])) (fun _ k => ?_) ?_
          · refine XS.icmpNo X32.here hx rfl (hb hby at_412) rfl (teq e1).2 ?_
            refine XS.iload X32.here hx rfl (hb hby at_415) rfl ?_
            refine XS.iconst X32.here hx rfl (hb hby at_417) ?_
            exact k
          rcases Classical.em (ul < (2 : Int32)) with l2 | l2
          · refine OJ.st (S' := T32.setTop (mkF m 474 #[vi p0, vi p1, vi p2, vi p3, vi p4, vi nl, vi ul, vi pm, vi cm, vr b1, vr b20, vr r29, vr r30, vi r31, vi y32, .unset, .unset] [(.int 1)])) (fun _ k => ?_) ?_
            · refine XS.icmpYes X32.here hx rfl (pc0 := 418) (pc' := 433) rfl (hb hby at_418) rfl (tlt l2).1 (by decide) (by decide) ?_
              refine XS.iload X32.here hx rfl (hb hby at_433) rfl ?_
              refine XS.iconst X32.here hx rfl (hb hby at_435) ?_
              refine XS.icmpYes X32.here hx rfl (pc0 := 436) (pc' := 451) rfl (hb hby at_436) rfl (tlt (lt_up l2 (by decide))).1 (by decide) (by decide) ?_
              show Steps p.tables e below (T32.setTop (mkF m 451 #[vi p0, vi p1, vi p2, vi p3, vi p4, vi nl, vi ul, vi pm, vi cm, vr b1, vr b20, vr r29, vr r30, vi r31, vi y32, .unset, .unset] [])) _
              refine XS.iload X32.here hx rfl (hb hby at_451) rfl ?_
              refine XS.iconst X32.here hx rfl (hb hby at_453) ?_
              refine XS.icmpYes X32.here hx rfl (pc0 := 454) (pc' := 469) rfl (hb hby at_454) rfl (tlt (lt_up l2 (by decide))).1 (by decide) (by decide) ?_
              refine XS.iconst X32.here hx rfl (hb hby at_469) ?_
              show Steps p.tables e below (T32.setTop (mkF m 470 #[vi p0, vi p1, vi p2, vi p3, vi p4, vi nl, vi ul, vi pm, vi cm, vr b1, vr b20, vr r29, vr r30, vi r31, vi y32, .unset, .unset] [(.int 1)])) _
              refine XS.goto X32.here hx rfl (pc0 := 470) (pc' := 474) rfl (hb hby at_470) (by decide) (by decide) ?_
              exact k
            exact OJ.here ⟨(1 : Int32), T32, _, Or.inl ⟨rfl, pf0, Or.inr e1, Or.inl l2, Or.inl (lt_up l2 (by decide)), Or.inl (lt_up l2 (by decide))⟩, X32, e32, N32, rfl⟩
          · refine OJ.st (S' := T32.setTop (mkF m 424 #[vi p0, vi p1, vi p2, vi p3, vi p4, vi nl, vi ul, vi pm, vi cm, vr b1, vr b20, vr r29, vr r30, vi r31, vi y32, .unset, .unset] [(.int 1), (.ref b20)])) (fun _ k => ?_) ?_
            · refine XS.icmpNo X32.here hx rfl (hb hby at_418) rfl (flt l2).1 ?_
              refine XS.aload X32.here hx rfl (hb hby at_421) rfl rfl ?_
              refine XS.iconst X32.here hx rfl (hb hby at_423) ?_
              exact k
            obtain ⟨cl_b20_36, Ar_b20_36, q_b20_36, S_b20_36, N_b20_36, H_b20_36, G_b20_36⟩ := id V_b20_28
            refine OJ.st (S' := T32.setTop (mkF m 425 #[vi p0, vi p1, vi p2, vi p3, vi p4, vi nl, vi ul, vi pm, vi cm, vr b1, vr b20, vr r29, vr r30, vi r31, vi y32, .unset, .unset] [(.int y23)])) (X32.caload hx (j := (1 : Int32)) (v := (.int y23)) (by rw [e32]; exact Ar_b20_36.1) (State.isArrayOf_alike hZ31.alike Ar_b20_36.2.1) Ar_b20_36.2.2 (inb_of S_b20_36 ⟨by decide, by decide⟩) (H_b20_36.at (inb_of S_b20_36 ⟨by decide, by decide⟩) rfl) (g := (mkF m 424 #[vi p0, vi p1, vi p2, vi p3, vi p4, vi nl, vi ul, vi pm, vi cm, vr b1, vr b20, vr r29, vr r30, vi r31, vi y32, .unset, .unset] [(.int 1), (.ref b20)])) rfl rfl (hb hby at_424)) ?_
            refine OJ.st (S' := T32.setTop (mkF m 429 #[vi p0, vi p1, vi p2, vi p3, vi p4, vi nl, vi ul, vi pm, vi cm, vr b1, vr b20, vr r29, vr r30, vi r31, vi y32, .unset, .unset] [(.int 6), (.ref b1), (.int y23)])) (fun _ k => ?_) ?_
            · refine XS.aload X32.here hx rfl (hb hby at_425) rfl rfl ?_
              refine XS.bipush X32.here hx rfl (hb hby at_427) ?_
              exact k
            obtain ⟨cl_b1_37, Ar_b1_37, q_b1_37, S_b1_37, N_b1_37, H_b1_37, G_b1_37⟩ := id V_b1_19
            refine OJ.st (S' := T32.setTop (mkF m 430 #[vi p0, vi p1, vi p2, vi p3, vi p4, vi nl, vi ul, vi pm, vi cm, vr b1, vr b20, vr r29, vr r30, vi r31, vi y32, .unset, .unset] [(.int z14), (.int y23)])) (X32.caload hx (j := (6 : Int32)) (v := (.int z14)) (by rw [e32]; exact Ar_b1_37.1) (State.isArrayOf_alike hZ31.alike Ar_b1_37.2.1) Ar_b1_37.2.2 (inb_of S_b1_37 ⟨by decide, by decide⟩) (H_b1_37.at (inb_of S_b1_37 ⟨by decide, by decide⟩) rfl) (g := (mkF m 429 #[vi p0, vi p1, vi p2, vi p3, vi p4, vi nl, vi ul, vi pm, vi cm, vr b1, vr b20, vr r29, vr r30, vi r31, vi y32, .unset, .unset] [(.int 6), (.ref b1), (.int y23)])) rfl rfl (hb hby at_429)) ?_
            rcases Classical.em (y23 = z14) with e2 | e2
            · refine OJ.st (S' := T32.setTop (mkF m 436 #[vi p0, vi p1, vi p2, vi p3, vi p4, vi nl, vi ul, vi pm, vi cm, vr b1, vr b20, vr r29, vr r30, vi r31, vi y32, .unset, .unset] [(.int 3), (.int ul)])) (fun _ k => ?_) ?_
              · refine XS.icmpNo X32.here hx rfl (hb hby at_430) rfl (teq e2).2 ?_
                refine XS.iload X32.here hx rfl (hb hby at_433) rfl ?_
                refine XS.iconst X32.here hx rfl (hb hby at_435) ?_
                exact k
              rcases Classical.em (ul < (3 : Int32)) with l3 | l3
              · refine OJ.st (S' := T32.setTop (mkF m 474 #[vi p0, vi p1, vi p2, vi p3, vi p4, vi nl, vi ul, vi pm, vi cm, vr b1, vr b20, vr r29, vr r30, vi r31, vi y32, .unset, .unset] [(.int 1)])) (fun _ k => ?_) ?_
                · refine XS.icmpYes X32.here hx rfl (pc0 := 436) (pc' := 451) rfl (hb hby at_436) rfl (tlt l3).1 (by decide) (by decide) ?_
                  refine XS.iload X32.here hx rfl (hb hby at_451) rfl ?_
                  refine XS.iconst X32.here hx rfl (hb hby at_453) ?_
                  refine XS.icmpYes X32.here hx rfl (pc0 := 454) (pc' := 469) rfl (hb hby at_454) rfl (tlt (lt_up l3 (by decide))).1 (by decide) (by decide) ?_
                  show Steps p.tables e below (T32.setTop (mkF m 469 #[vi p0, vi p1, vi p2, vi p3, vi p4, vi nl, vi ul, vi pm, vi cm, vr b1, vr b20, vr r29, vr r30, vi r31, vi y32, .unset, .unset] [])) _
                  refine XS.iconst X32.here hx rfl (hb hby at_469) ?_
                  refine XS.goto X32.here hx rfl (pc0 := 470) (pc' := 474) rfl (hb hby at_470) (by decide) (by decide) ?_
                  exact k
                exact OJ.here ⟨(1 : Int32), T32, _, Or.inl ⟨rfl, pf0, Or.inr e1, Or.inr e2, Or.inl l3, Or.inl (lt_up l3 (by decide))⟩, X32, e32, N32, rfl⟩
              · refine OJ.st (S' := T32.setTop (mkF m 442 #[vi p0, vi p1, vi p2, vi p3, vi p4, vi nl, vi ul, vi pm, vi cm, vr b1, vr b20, vr r29, vr r30, vi r31, vi y32, .unset, .unset] [(.int 2), (.ref b20)])) (fun _ k => ?_) ?_
                · refine XS.icmpNo X32.here hx rfl (hb hby at_436) rfl (flt l3).1 ?_
                  refine XS.aload X32.here hx rfl (hb hby at_439) rfl rfl ?_
                  refine XS.iconst X32.here hx rfl (hb hby at_441) ?_
                  exact k
                obtain ⟨cl_b20_38, Ar_b20_38, q_b20_38, S_b20_38, N_b20_38, H_b20_38, G_b20_38⟩ := id V_b20_28
                refine OJ.st (S' := T32.setTop (mkF m 443 #[vi p0, vi p1, vi p2, vi p3, vi p4, vi nl, vi ul, vi pm, vi cm, vr b1, vr b20, vr r29, vr r30, vi r31, vi y32, .unset, .unset] [(.int y25)])) (X32.caload hx (j := (2 : Int32)) (v := (.int y25)) (by rw [e32]; exact Ar_b20_38.1) (State.isArrayOf_alike hZ31.alike Ar_b20_38.2.1) Ar_b20_38.2.2 (inb_of S_b20_38 ⟨by decide, by decide⟩) (H_b20_38.at (inb_of S_b20_38 ⟨by decide, by decide⟩) rfl) (g := (mkF m 442 #[vi p0, vi p1, vi p2, vi p3, vi p4, vi nl, vi ul, vi pm, vi cm, vr b1, vr b20, vr r29, vr r30, vi r31, vi y32, .unset, .unset] [(.int 2), (.ref b20)])) rfl rfl (hb hby at_442)) ?_
                refine OJ.st (S' := T32.setTop (mkF m 447 #[vi p0, vi p1, vi p2, vi p3, vi p4, vi nl, vi ul, vi pm, vi cm, vr b1, vr b20, vr r29, vr r30, vi r31, vi y32, .unset, .unset] [(.int 7), (.ref b1), (.int y25)])) (fun _ k => ?_) ?_
                · refine XS.aload X32.here hx rfl (hb hby at_443) rfl rfl ?_
                  refine XS.bipush X32.here hx rfl (hb hby at_445) ?_
                  exact k
                obtain ⟨cl_b1_39, Ar_b1_39, q_b1_39, S_b1_39, N_b1_39, H_b1_39, G_b1_39⟩ := id V_b1_19
                refine OJ.st (S' := T32.setTop (mkF m 448 #[vi p0, vi p1, vi p2, vi p3, vi p4, vi nl, vi ul, vi pm, vi cm, vr b1, vr b20, vr r29, vr r30, vi r31, vi y32, .unset, .unset] [(.int z16), (.int y25)])) (X32.caload hx (j := (7 : Int32)) (v := (.int z16)) (by rw [e32]; exact Ar_b1_39.1) (State.isArrayOf_alike hZ31.alike Ar_b1_39.2.1) Ar_b1_39.2.2 (inb_of S_b1_39 ⟨by decide, by decide⟩) (H_b1_39.at (inb_of S_b1_39 ⟨by decide, by decide⟩) rfl) (g := (mkF m 447 #[vi p0, vi p1, vi p2, vi p3, vi p4, vi nl, vi ul, vi pm, vi cm, vr b1, vr b20, vr r29, vr r30, vi r31, vi y32, .unset, .unset] [(.int 7), (.ref b1), (.int y25)])) rfl rfl (hb hby at_447)) ?_
                rcases Classical.em (y25 = z16) with e3 | e3
                · refine OJ.st (S' := T32.setTop (mkF m 454 #[vi p0, vi p1, vi p2, vi p3, vi p4, vi nl, vi ul, vi pm, vi cm, vr b1, vr b20, vr r29, vr r30, vi r31, vi y32, .unset, .unset] [(.int 4), (.int ul)])) (fun _ k => ?_) ?_
                  · refine XS.icmpNo X32.here hx rfl (hb hby at_448) rfl (teq e3).2 ?_
                    refine XS.iload X32.here hx rfl (hb hby at_451) rfl ?_
                    refine XS.iconst X32.here hx rfl (hb hby at_453) ?_
                    exact k
                  rcases Classical.em (ul < (4 : Int32)) with l4 | l4
                  · refine OJ.st (S' := T32.setTop (mkF m 474 #[vi p0, vi p1, vi p2, vi p3, vi p4, vi nl, vi ul, vi pm, vi cm, vr b1, vr b20, vr r29, vr r30, vi r31, vi y32, .unset, .unset] [(.int 1)])) (fun _ k => ?_) ?_
                    · refine XS.icmpYes X32.here hx rfl (pc0 := 454) (pc' := 469) rfl (hb hby at_454) rfl (tlt l4).1 (by decide) (by decide) ?_
                      refine XS.iconst X32.here hx rfl (hb hby at_469) ?_
                      refine XS.goto X32.here hx rfl (pc0 := 470) (pc' := 474) rfl (hb hby at_470) (by decide) (by decide) ?_
                      exact k
                    exact OJ.here ⟨(1 : Int32), T32, _, Or.inl ⟨rfl, pf0, Or.inr e1, Or.inr e2, Or.inr e3, Or.inl l4⟩, X32, e32, N32, rfl⟩
                  · refine OJ.st (S' := T32.setTop (mkF m 460 #[vi p0, vi p1, vi p2, vi p3, vi p4, vi nl, vi ul, vi pm, vi cm, vr b1, vr b20, vr r29, vr r30, vi r31, vi y32, .unset, .unset] [(.int 3), (.ref b20)])) (fun _ k => ?_) ?_
                    · refine XS.icmpNo X32.here hx rfl (hb hby at_454) rfl (flt l4).1 ?_
                      refine XS.aload X32.here hx rfl (hb hby at_457) rfl rfl ?_
                      refine XS.iconst X32.here hx rfl (hb hby at_459) ?_
                      exact k
                    obtain ⟨cl_b20_40, Ar_b20_40, q_b20_40, S_b20_40, N_b20_40, H_b20_40, G_b20_40⟩ := id V_b20_28
                    refine OJ.st (S' := T32.setTop (mkF m 461 #[vi p0, vi p1, vi p2, vi p3, vi p4, vi nl, vi ul, vi pm, vi cm, vr b1, vr b20, vr r29, vr r30, vi r31, vi y32, .unset, .unset] [(.int y27)])) (X32.caload hx (j := (3 : Int32)) (v := (.int y27)) (by rw [e32]; exact Ar_b20_40.1) (State.isArrayOf_alike hZ31.alike Ar_b20_40.2.1) Ar_b20_40.2.2 (inb_of S_b20_40 ⟨by decide, by decide⟩) (H_b20_40.at (inb_of S_b20_40 ⟨by decide, by decide⟩) rfl) (g := (mkF m 460 #[vi p0, vi p1, vi p2, vi p3, vi p4, vi nl, vi ul, vi pm, vi cm, vr b1, vr b20, vr r29, vr r30, vi r31, vi y32, .unset, .unset] [(.int 3), (.ref b20)])) rfl rfl (hb hby at_460)) ?_
                    refine OJ.st (S' := T32.setTop (mkF m 465 #[vi p0, vi p1, vi p2, vi p3, vi p4, vi nl, vi ul, vi pm, vi cm, vr b1, vr b20, vr r29, vr r30, vi r31, vi y32, .unset, .unset] [(.int 8), (.ref b1), (.int y27)])) (fun _ k => ?_) ?_
                    · refine XS.aload X32.here hx rfl (hb hby at_461) rfl rfl ?_
                      refine XS.bipush X32.here hx rfl (hb hby at_463) ?_
                      exact k
                    obtain ⟨cl_b1_41, Ar_b1_41, q_b1_41, S_b1_41, N_b1_41, H_b1_41, G_b1_41⟩ := id V_b1_19
                    refine OJ.st (S' := T32.setTop (mkF m 466 #[vi p0, vi p1, vi p2, vi p3, vi p4, vi nl, vi ul, vi pm, vi cm, vr b1, vr b20, vr r29, vr r30, vi r31, vi y32, .unset, .unset] [(.int z18), (.int y27)])) (X32.caload hx (j := (8 : Int32)) (v := (.int z18)) (by rw [e32]; exact Ar_b1_41.1) (State.isArrayOf_alike hZ31.alike Ar_b1_41.2.1) Ar_b1_41.2.2 (inb_of S_b1_41 ⟨by decide, by decide⟩) (H_b1_41.at (inb_of S_b1_41 ⟨by decide, by decide⟩) rfl) (g := (mkF m 465 #[vi p0, vi p1, vi p2, vi p3, vi p4, vi nl, vi ul, vi pm, vi cm, vr b1, vr b20, vr r29, vr r30, vi r31, vi y32, .unset, .unset] [(.int 8), (.ref b1), (.int y27)])) rfl rfl (hb hby at_465)) ?_
                    rcases Classical.em (y27 = z18) with e4 | e4
                    · refine OJ.st (S' := T32.setTop (mkF m 474 #[vi p0, vi p1, vi p2, vi p3, vi p4, vi nl, vi ul, vi pm, vi cm, vr b1, vr b20, vr r29, vr r30, vi r31, vi y32, .unset, .unset] [(.int 1)])) (fun _ k => ?_) ?_
                      · refine XS.icmpNo X32.here hx rfl (hb hby at_466) rfl (teq e4).2 ?_
                        refine XS.iconst X32.here hx rfl (hb hby at_469) ?_
                        refine XS.goto X32.here hx rfl (pc0 := 470) (pc' := 474) rfl (hb hby at_470) (by decide) (by decide) ?_
                        exact k
                      exact OJ.here ⟨(1 : Int32), T32, _, Or.inl ⟨rfl, pf0, Or.inr e1, Or.inr e2, Or.inr e3, Or.inr e4⟩, X32, e32, N32, rfl⟩
                    · refine OJ.st (S' := T32.setTop (mkF m 474 #[vi p0, vi p1, vi p2, vi p3, vi p4, vi nl, vi ul, vi pm, vi cm, vr b1, vr b20, vr r29, vr r30, vi r31, vi y32, .unset, .unset] [(.int 0)])) (fun _ k => ?_) ?_
                      · refine XS.icmpYes X32.here hx rfl (pc0 := 466) (pc' := 473) rfl (hb hby at_466) rfl (feq e4).2 (by decide) (by decide) ?_
                        refine XS.iconst X32.here hx rfl (hb hby at_473) ?_
                        exact k
                      exact OJ.here ⟨(0 : Int32), T32, _, Or.inr ⟨rfl, fun q => (q.2.2.2.2).elim l4 e4⟩, X32, e32, N32, rfl⟩
                · refine OJ.st (S' := T32.setTop (mkF m 474 #[vi p0, vi p1, vi p2, vi p3, vi p4, vi nl, vi ul, vi pm, vi cm, vr b1, vr b20, vr r29, vr r30, vi r31, vi y32, .unset, .unset] [(.int 0)])) (fun _ k => ?_) ?_
                  · refine XS.icmpYes X32.here hx rfl (pc0 := 448) (pc' := 473) rfl (hb hby at_448) rfl (feq e3).2 (by decide) (by decide) ?_
                    refine XS.iconst X32.here hx rfl (hb hby at_473) ?_
                    exact k
                  exact OJ.here ⟨(0 : Int32), T32, _, Or.inr ⟨rfl, fun q => (q.2.2.2.1).elim l3 e3⟩, X32, e32, N32, rfl⟩
            · refine OJ.st (S' := T32.setTop (mkF m 474 #[vi p0, vi p1, vi p2, vi p3, vi p4, vi nl, vi ul, vi pm, vi cm, vr b1, vr b20, vr r29, vr r30, vi r31, vi y32, .unset, .unset] [(.int 0)])) (fun _ k => ?_) ?_
              · refine XS.icmpYes X32.here hx rfl (pc0 := 430) (pc' := 473) rfl (hb hby at_430) rfl (feq e2).2 (by decide) (by decide) ?_
                refine XS.iconst X32.here hx rfl (hb hby at_473) ?_
                exact k
              exact OJ.here ⟨(0 : Int32), T32, _, Or.inr ⟨rfl, fun q => (q.2.2.1).elim l2 e2⟩, X32, e32, N32, rfl⟩
        · refine OJ.st (S' := T32.setTop (mkF m 474 #[vi p0, vi p1, vi p2, vi p3, vi p4, vi nl, vi ul, vi pm, vi cm, vr b1, vr b20, vr r29, vr r30, vi r31, vi y32, .unset, .unset] [(.int 0)])) (fun _ k => ?_) ?_
          · refine XS.icmpYes X32.here hx rfl (pc0 := 412) (pc' := 473) rfl (hb hby at_412) rfl (feq e1).2 (by decide) (by decide) ?_
            refine XS.iconst X32.here hx rfl (hb hby at_473) ?_
            exact k
          exact OJ.here ⟨(0 : Int32), T32, _, Or.inr ⟨rfl, fun q => (q.2.1).elim l1 e1⟩, X32, e32, N32, rfl⟩
    · refine OJ.st (S' := T32.setTop (mkF m 474 #[vi p0, vi p1, vi p2, vi p3, vi p4, vi nl, vi ul, vi pm, vi cm, vr b1, vr b20, vr r29, vr r30, vi r31, vi y32, .unset, .unset] [(.int 0)])) (fun _ k => ?_) ?_
      · refine XS.icmpYes X32.here hx rfl (pc0 := 395) (pc' := 473) rfl (hb hby at_395) rfl (feq pf0).2 (by decide) (by decide) ?_
        refine XS.iconst X32.here hx rfl (hb hby at_473) ?_
        exact k
      exact OJ.here ⟨(0 : Int32), T32, _, Or.inr ⟨rfl, fun q => pf0 q.1⟩, X32, e32, N32, rfl⟩
  refine OEndsH.st st33 ?_
  refine OEndsH.st (S' := T33.setTop (mkF m 476 #[vi p0, vi p1, vi p2, vi p3, vi p4, vi nl, vi ul, vi pm, vi cm, vr b1, vr b20, vr r29, vr r30, vi r31, vi y32, vi y33, .unset] [])) (fun _ k => ?_) ?_
  · refine XS.istore X33.here hx rfl (hb hby at_474) rfl (l' := #[vi p0, vi p1, vi p2, vi p3, vi p4, vi nl, vi ul, vi pm, vi cm, vr b1, vr b20, vr r29, vr r30, vi r31, vi y32, vi y33, .unset]) rfl ?_
    exact k
  have hPL : Pre (List.take n29 [y2, y4, y6, y8, y10, z12, z14, z16, z18]) ↔ PreL nl y2 y4 y6 y8 y10 := hln29 ▸ pre_law n29 hn929 y2 y4 y6 y8 y10 z12 z14 z16 z18
  have hSL : PreL nl y2 y4 y6 y8 y10 → ((List.take n29 [y2, y4, y6, y8, y10, z12, z14, z16, z18]).drop 5 = (List.take n30 [y21, y23, y25, y27, (0 : Int32), (0 : Int32), (0 : Int32), (0 : Int32), (0 : Int32)]) ↔ SameL nl ul z12 z14 z16 z18 y21 y23 y25 y27) := fun q => by
    rw [hln29, hln30]
    exact same_law n29 n30 (nle5 hn929 (hln29 ▸ q.1)) hn929 (le4 hln30 hul.2 hn930) y2 y4 y6 y8 y10 z12 z14 z16 z18 y21 y23 y25 y27
  rcases hy32 with ⟨rfl, hP⟩ | ⟨rfl, hP⟩
  · rcases hy33 with ⟨rfl, hS⟩ | ⟨rfl, hS⟩
    · rcases hr31 with ⟨rfl, hG⟩ | ⟨rfl, hG⟩
      · refine OEndsH.st (S' := T33.setTop (mkF m 505 #[vi p0, vi p1, vi p2, vi p3, vi p4, vi nl, vi ul, vi pm, vi cm, vr b1, vr b20, vr r29, vr r30, vi 1, vi 1, vi 1, vi 1] [(.int 1)])) (fun _ k => ?_) ?_
        · refine XS.iload X33.here hx rfl (hb hby at_476) rfl ?_
          refine XS.ifNo X33.here hx rfl (hb hby at_478) rfl ((if0 _ _).trans (feq (by decide)).1) ?_
          refine XS.iload X33.here hx rfl (hb hby at_481) rfl ?_
          refine XS.ifNo X33.here hx rfl (hb hby at_483) rfl ((if0 _ _).trans (feq (by decide)).1) ?_
          show Steps p.tables e below (T33.setTop (mkF m 486 #[vi p0, vi p1, vi p2, vi p3, vi p4, vi nl, vi ul, vi pm, vi cm, vr b1, vr b20, vr r29, vr r30, vi 1, vi 1, vi 1, .unset] [])) _
          refine XS.iconst X33.here hx rfl (hb hby at_486) ?_
          refine XS.goto X33.here hx rfl (pc0 := 487) (pc' := 491) rfl (hb hby at_487) (by decide) (by decide) ?_
          refine XS.istore X33.here hx rfl (hb hby at_491) rfl (l' := #[vi p0, vi p1, vi p2, vi p3, vi p4, vi nl, vi ul, vi pm, vi cm, vr b1, vr b20, vr r29, vr r30, vi 1, vi 1, vi 1, vi 1]) rfl ?_
          refine XS.iload X33.here hx rfl (hb hby at_493) rfl ?_
          show Steps p.tables e below (T33.setTop (mkF m 495 #[vi p0, vi p1, vi p2, vi p3, vi p4, vi nl, vi ul, vi pm, vi cm, vr b1, vr b20, vr r29, vr r30, vi 1, vi 1, vi 1, vi 1] [(.int 1)])) _
          refine XS.iload X33.here hx rfl (hb hby at_495) rfl ?_
          refine XS.icmpNo X33.here hx rfl (hb hby at_497) rfl (teq (by decide)).2 ?_
          refine XS.iconst X33.here hx rfl (hb hby at_500) ?_
          refine XS.goto X33.here hx rfl (pc0 := 501) (pc' := 505) rfl (hb hby at_501) (by decide) (by decide) ?_
          exact k
        exact OEndsH.ret X33 hx hZ31 hEL e33 hS31 hk31 A0 hret hlk (by decide) (Or.inl ⟨rfl, by simp, _, rfl⟩) (hb hby at_505) (by decide) (by decide) ⟨rfl, N33⟩
      · exact absurd ((hSL hP).mpr hS) hG.2
    · rcases hr31 with ⟨rfl, hG⟩ | ⟨rfl, hG⟩
      · exact absurd ⟨hPL.mpr hP, fun q => hS ((hSL hP).mp q)⟩ hG
      · refine OEndsH.st (S' := T33.setTop (mkF m 505 #[vi p0, vi p1, vi p2, vi p3, vi p4, vi nl, vi ul, vi pm, vi cm, vr b1, vr b20, vr r29, vr r30, vi 0, vi 1, vi 0, vi 0] [(.int 1)])) (fun _ k => ?_) ?_
        · refine XS.iload X33.here hx rfl (hb hby at_476) rfl ?_
          refine XS.ifNo X33.here hx rfl (hb hby at_478) rfl ((if0 _ _).trans (feq (by decide)).1) ?_
          refine XS.iload X33.here hx rfl (hb hby at_481) rfl ?_
          refine XS.ifYes X33.here hx rfl (pc0 := 483) (pc' := 490) rfl (hb hby at_483) rfl ((if0 _ _).trans (teq (by decide)).1) (by decide) (by decide) ?_
          show Steps p.tables e below (T33.setTop (mkF m 490 #[vi p0, vi p1, vi p2, vi p3, vi p4, vi nl, vi ul, vi pm, vi cm, vr b1, vr b20, vr r29, vr r30, vi 0, vi 1, vi 0, .unset] [])) _
          refine XS.iconst X33.here hx rfl (hb hby at_490) ?_
          refine XS.istore X33.here hx rfl (hb hby at_491) rfl (l' := #[vi p0, vi p1, vi p2, vi p3, vi p4, vi nl, vi ul, vi pm, vi cm, vr b1, vr b20, vr r29, vr r30, vi 0, vi 1, vi 0, vi 0]) rfl ?_
          refine XS.iload X33.here hx rfl (hb hby at_493) rfl ?_
          refine XS.iload X33.here hx rfl (hb hby at_495) rfl ?_
          show Steps p.tables e below (T33.setTop (mkF m 497 #[vi p0, vi p1, vi p2, vi p3, vi p4, vi nl, vi ul, vi pm, vi cm, vr b1, vr b20, vr r29, vr r30, vi 0, vi 1, vi 0, vi 0] [(.int 0), (.int 0)])) _
          refine XS.icmpNo X33.here hx rfl (hb hby at_497) rfl (teq (by decide)).2 ?_
          refine XS.iconst X33.here hx rfl (hb hby at_500) ?_
          refine XS.goto X33.here hx rfl (pc0 := 501) (pc' := 505) rfl (hb hby at_501) (by decide) (by decide) ?_
          exact k
        exact OEndsH.ret X33 hx hZ31 hEL e33 hS31 hk31 A0 hret hlk (by decide) (Or.inl ⟨rfl, by simp, _, rfl⟩) (hb hby at_505) (by decide) (by decide) ⟨rfl, N33⟩
  · rcases hy33 with ⟨rfl, hS⟩ | ⟨rfl, hS⟩
    · rcases hr31 with ⟨rfl, hG⟩ | ⟨rfl, hG⟩
      · refine OEndsH.st (S' := T33.setTop (mkF m 505 #[vi p0, vi p1, vi p2, vi p3, vi p4, vi nl, vi ul, vi pm, vi cm, vr b1, vr b20, vr r29, vr r30, vi 1, vi 0, vi 1, vi 1] [(.int 1)])) (fun _ k => ?_) ?_
        · refine XS.iload X33.here hx rfl (hb hby at_476) rfl ?_
          refine XS.ifYes X33.here hx rfl (pc0 := 478) (pc' := 486) rfl (hb hby at_478) rfl ((if0 _ _).trans (teq (by decide)).1) (by decide) (by decide) ?_
          refine XS.iconst X33.here hx rfl (hb hby at_486) ?_
          refine XS.goto X33.here hx rfl (pc0 := 487) (pc' := 491) rfl (hb hby at_487) (by decide) (by decide) ?_
          show Steps p.tables e below (T33.setTop (mkF m 491 #[vi p0, vi p1, vi p2, vi p3, vi p4, vi nl, vi ul, vi pm, vi cm, vr b1, vr b20, vr r29, vr r30, vi 1, vi 0, vi 1, .unset] [(.int 1)])) _
          refine XS.istore X33.here hx rfl (hb hby at_491) rfl (l' := #[vi p0, vi p1, vi p2, vi p3, vi p4, vi nl, vi ul, vi pm, vi cm, vr b1, vr b20, vr r29, vr r30, vi 1, vi 0, vi 1, vi 1]) rfl ?_
          refine XS.iload X33.here hx rfl (hb hby at_493) rfl ?_
          refine XS.iload X33.here hx rfl (hb hby at_495) rfl ?_
          refine XS.icmpNo X33.here hx rfl (hb hby at_497) rfl (teq (by decide)).2 ?_
          show Steps p.tables e below (T33.setTop (mkF m 500 #[vi p0, vi p1, vi p2, vi p3, vi p4, vi nl, vi ul, vi pm, vi cm, vr b1, vr b20, vr r29, vr r30, vi 1, vi 0, vi 1, vi 1] [])) _
          refine XS.iconst X33.here hx rfl (hb hby at_500) ?_
          refine XS.goto X33.here hx rfl (pc0 := 501) (pc' := 505) rfl (hb hby at_501) (by decide) (by decide) ?_
          exact k
        exact OEndsH.ret X33 hx hZ31 hEL e33 hS31 hk31 A0 hret hlk (by decide) (Or.inl ⟨rfl, by simp, _, rfl⟩) (hb hby at_505) (by decide) (by decide) ⟨rfl, N33⟩
      · exact absurd (hPL.mp hG.1) hP
    · rcases hr31 with ⟨rfl, hG⟩ | ⟨rfl, hG⟩
      · refine OEndsH.st (S' := T33.setTop (mkF m 505 #[vi p0, vi p1, vi p2, vi p3, vi p4, vi nl, vi ul, vi pm, vi cm, vr b1, vr b20, vr r29, vr r30, vi 1, vi 0, vi 0, vi 1] [(.int 1)])) (fun _ k => ?_) ?_
        · refine XS.iload X33.here hx rfl (hb hby at_476) rfl ?_
          refine XS.ifYes X33.here hx rfl (pc0 := 478) (pc' := 486) rfl (hb hby at_478) rfl ((if0 _ _).trans (teq (by decide)).1) (by decide) (by decide) ?_
          refine XS.iconst X33.here hx rfl (hb hby at_486) ?_
          refine XS.goto X33.here hx rfl (pc0 := 487) (pc' := 491) rfl (hb hby at_487) (by decide) (by decide) ?_
          show Steps p.tables e below (T33.setTop (mkF m 491 #[vi p0, vi p1, vi p2, vi p3, vi p4, vi nl, vi ul, vi pm, vi cm, vr b1, vr b20, vr r29, vr r30, vi 1, vi 0, vi 0, .unset] [(.int 1)])) _
          refine XS.istore X33.here hx rfl (hb hby at_491) rfl (l' := #[vi p0, vi p1, vi p2, vi p3, vi p4, vi nl, vi ul, vi pm, vi cm, vr b1, vr b20, vr r29, vr r30, vi 1, vi 0, vi 0, vi 1]) rfl ?_
          refine XS.iload X33.here hx rfl (hb hby at_493) rfl ?_
          refine XS.iload X33.here hx rfl (hb hby at_495) rfl ?_
          refine XS.icmpNo X33.here hx rfl (hb hby at_497) rfl (teq (by decide)).2 ?_
          show Steps p.tables e below (T33.setTop (mkF m 500 #[vi p0, vi p1, vi p2, vi p3, vi p4, vi nl, vi ul, vi pm, vi cm, vr b1, vr b20, vr r29, vr r30, vi 1, vi 0, vi 0, vi 1] [])) _
          refine XS.iconst X33.here hx rfl (hb hby at_500) ?_
          refine XS.goto X33.here hx rfl (pc0 := 501) (pc' := 505) rfl (hb hby at_501) (by decide) (by decide) ?_
          exact k
        exact OEndsH.ret X33 hx hZ31 hEL e33 hS31 hk31 A0 hret hlk (by decide) (Or.inl ⟨rfl, by simp, _, rfl⟩) (hb hby at_505) (by decide) (by decide) ⟨rfl, N33⟩
      · exact absurd (hPL.mp hG.1) hP
theorem consts_in : ∀ q ∈ EL, q ∈ consts_1 := by decide
set_option maxRecDepth 65536 in
set_option maxHeartbeats 40000000 in
theorem comes_1 {Post : Tables → Env → Array Value → State → Outcome → State → Prop} (hpost : ∀ tb e args s v u, (limb_1_1.after args s (.returned v) u = true ∧ limb_1_2.after args s (.returned v) u = true ∧ True) → Jvm.D.FramedW s (.returned v) u (Jvm.fieldLocs frame_1_writes args s ++ Jvm.arrayLocs frame_1_arrays args s ++ Jvm.staticLocs frame_1_statics s) 40 3264 → Post tb e args s (.returned v) u) :
    ArmFor flags0 classFile x code maxLocals ret World_1 tables_1 room_1 Calls_1 rest_1 Pre_1 Post := by
  intro l hfl _ _ p e ha hc hk s m args below hf hA hF happ hP
  obtain ⟨hcalls, hrest, hpre⟩ := hP
  obtain ⟨-, -, -, hnamed, -, -, -, hat⟩ := (Spec.applies_iff hf).mp happ
  obtain ⟨hg, hn⟩ := and_e (Cond.before_iff.mp (show (Jvm.Cond.and given_1 narrow_1).before args s = true from hpre))
  obtain ⟨g0, g1⟩ := and_e hg
  obtain ⟨ga0, g2⟩ := and_e g1
  obtain ⟨ga1, g3⟩ := and_e g2
  obtain ⟨ga2, g4⟩ := and_e g3
  obtain ⟨ga3, g5⟩ := and_e g4
  obtain ⟨w0, w1, w2, w3, w4, rfl⟩ : ∃ w0 w1 w2 w3 w4 : Value, args = #[w0, w1, w2, w3, w4] := by
    have hs : args.size = 5 := by simpa [Cond.value, given_1] using g0
    obtain ⟨L⟩ := args
    match L, hs with
    | [w0, w1, w2, w3, w4], _ => exact ⟨w0, w1, w2, w3, w4, rfl⟩
  have hw := fun d (hd : d ∈ tables_1) => atoms_spec (ws := Jvm.Cond.code x code maxLocals ret :: tables_1) hat d (List.mem_cons_of_mem _ hd)
  have hfit : Fit s := fun {y c} hc i hi => by
    obtain ⟨ha, rfl⟩ := Array.getElem?_eq_some_iff.mp hc
    have q := List.all_eq_true.mp ((Array.all_eq_true_iff_forall_mem.mp hF) _ (Array.getElem_mem ha)) i (List.mem_range.mpr hi)
    simpa [Array.getElem?_eq_getElem hi] using q
  obtain ⟨hsets, hown0⟩ := atoms_of _ (rest_1_c_eq ▸ (show rest_1_c.before _ s = true from hrest))
  obtain ⟨i0, ei0⟩ := is_v ga0
  obtain rfl : w0 = (.int i0) := Option.some.inj ei0
  obtain ⟨i1, ei1⟩ := is_v ga1
  obtain rfl : w1 = (.int i1) := Option.some.inj ei1
  obtain ⟨i2, ei2⟩ := is_v ga2
  obtain rfl : w2 = (.int i2) := Option.some.inj ei2
  obtain ⟨i3, ei3⟩ := is_v ga3
  obtain rfl : w3 = (.int i3) := Option.some.inj ei3
  obtain ⟨i4, ei4⟩ := is_v g5
  obtain rfl : w4 = (.int i4) := Option.some.inj ei4
  obtain ⟨cz, ecz⟩ := is_v (Cond.before_iff.mp (hsets _ (List.mem_of_getElem? (i := 1) rfl)))
  have S_CS : Sta s s.heap "java/lang/String" "COMPACT_STRINGS" "Z" (.int cz) := Sta.start ecz (Or.inl (hsets _ (List.mem_of_getElem? (i := 0) rfl)))
  have hcz : ¬ (cz = (0 : Int32)) := gotF (Cond.eq_ints ecz (Term.int_eval (0))) (not_v (Cond.before_iff.mp (hsets _ (List.mem_of_getElem? (i := 2) rfl))))
  obtain ⟨sf, S_SF, hsf⟩ : ∃ w : Value, Sta s s.heap "jdk/internal/util/Preconditions" "SIOOBE_FORMATTER" "Ljava/util/function/BiFunction;" w ∧ w.isRef = true := by
    obtain ⟨w, ew, hw'⟩ := isR_v (Cond.before_iff.mp (hsets _ (List.mem_of_getElem? (i := 8) rfl)))
    exact ⟨w, Sta.start ew (Or.inl (hsets _ (List.mem_of_getElem? (i := 7) rfl))), hw'⟩
  have hD : Wd s _ := ⟨hw, ⟨cz, S_CS, hcz⟩, ⟨sf, S_SF, hsf⟩⟩
  have hC : CHv s EL s.vm s.heap := CHv.start (el_of hw) (fun q hq => hcalls.1 q (consts_in q hq)) (hsets _ (List.mem_of_getElem? (i := 2) rfl)) (wq hw 22 rfl) (wq hw 9 rfl)
  obtain ⟨n, o, h1, h2, h3, _, L, rfl, ⟨rfl, N⟩, -, hq⟩ := rm_law l hD i0 i1 i2 i3 i4 (ext_refl s.heap) p e ha hc hk s m _ below hf ((Spec.applies_iff_loose hf).mp happ).1 ⟨rfl, State.Warmed39.refl s, rfl, hC, fun x hx => nomatch hx⟩ trivial
  refine ⟨n, _, h1, h2, h3, hpost _ _ _ _ _ _ ⟨Cond.after_iff.mpr rfl, Cond.after_iff.mpr (eq_i res_at (Term.int_eval (1)) rfl), trivial⟩ ⟨hq.1, hq.2.1, hq.2.2.1, (hq.2.2.2.sift fun y hy => Or.inr (N y hy)).mono (by decide) (by decide)⟩⟩
theorem main_1_1 : Claimed_1_1 := comes_1 fun _ _ _ _ _ _ h hF => ⟨h.1, hF⟩
theorem main_1_2 : Claimed_1_2 := comes_1 fun _ _ _ _ _ _ h hF => ⟨h.2.1, hF⟩
end Jvm.Pilot.@@N@@
namespace Jvm.Pilot.@@N@@
open Jvm Jvm.ClassFile Sem Op Lib Jvm.Free Jvm.Stand Jvm.Pilot.@@N@@.Jvm.D
/-! MADE BY PROGRAM (witnessworld.py) out of the Statement's table words and the real class files: 23 classes; the members and pool entries that the words name. The judged class is class 1, her method 1. -/
namespace start1
open Jvm.ClassFile
def u (s : String) : CpInfo := .utf8 (stringToUtf16 s)
/-- a pool by its gaps: so many unusable entries, then the entry; so many at the end -/
def gap : Nat → List CpInfo → List CpInfo
  | 0, r => r
  | n + 1, r => .unusable :: gap n r
def poolList (es : List (Nat × CpInfo)) (last : Nat) : List CpInfo := es.foldr (fun e r => gap e.1 (e.2 :: r)) (gap last [])
def pool (es : List (Nat × CpInfo)) (last : Nat) : Array CpInfo := ⟨poolList es last⟩
def fileOf (pool : Array CpInfo) (this : Nat) (attrs : Array Attribute := #[]) (ms : Array MethodInfo := #[]) (fl : Nat := 33) (sup : Nat := 0) (ifs : Array Nat := #[]) (fds : Array FieldInfo := #[]) : ClassFile where
  minorVersion := 0
  majorVersion := 65
  constantPool := pool
  accessFlags := fl
  thisClass := this
  superClass := sup
  interfaces := ifs
  fields := fds
  methods := ms
  attributes := attrs
def plain (name : String) (sup : Option ClassId) : Class where
  name := name
  kind := .ordinary
  loader := none
  accessFlags := 33
  super := sup
  interfaces := #[]
  cf := none
  fields := #[]
  methods := #[]
  instanceTypes := #[]
  staticTypes := #[]
  resolved := #[]
  callSites := []
  init := .initialized
  statics := none
  mirror := none

def pool0 : Array CpInfo := pool [(5, u "<init>"), (0, u "()V"), (1, .class_ 10), (1, u "java/lang/Object")] 113

def k0c0 : Code := { maxStack := 0, maxLocals := 1, code := object_method_1_code, exceptionTable := #[], attributes := #[] }
def k0m0 : Method := { name := "<init>", desc := "()V", sig := { parameters := [], returnType := none }, accessFlags := 1, code := some k0c0 }
/-- java/lang/Object -/
def k0 : Class := { plain "java/lang/Object" none with
  accessFlags := 33
  interfaces := #[]
  cf := some (fileOf pool0 8 #[] #[{ accessFlags := 1, nameIndex := 5, descriptorIndex := 6, attributes := #[] }] 33 0 #[] #[])
  fields := #[]
  methods := #[k0m0]
  instanceTypes := #[]
  staticTypes := #[]
  resolved := Array.replicate 124 none
  statics := none }

def pool1 : Array CpInfo := pool [(2, .class_ 4), (1, u "java/lang/Object"), (0, u "<init>"), (0, u "()V"), (0, .methodref 8 9), (0, .class_ 10), (0, .nameAndType 11 12), (0, u "com/example/nudge_over_socket/nudgeoversocket/protocol/ChannelNamesIsOpenToPinLaw"), (0, u "ch"), (0, u "(II)C"), (0, .methodref 8 14), (0, .nameAndType 15 16), (0, u "take"), (0, u "([CI)Ljava/lang/String;"), (0, .methodref 18 19), (0, .class_ 20), (0, .nameAndType 21 22), (0, u "com/example/nudge_over_socket/nudgeoversocket/protocol/ChannelNames"), (0, u "isOpenTo"), (0, u "(Ljava/lang/String;Ljava/lang/String;)Z"), (0, .class_ 24), (0, u "java/lang/String"), (0, .methodref 23 26), (0, .nameAndType 5 27), (0, u "([C)V"), (2, u "law"), (0, u "(IIIII)Z")] 5

def k1m0 : Method := { name := "<init>", desc := "()V", sig := { parameters := [], returnType := none }, accessFlags := 1, code := none }
def k1c1 : Code := { maxStack := 4, maxLocals := 17, code := code, exceptionTable := #[], attributes := #[] }
def k1m1 : Method := { name := "law", desc := "(IIIII)Z", sig := { parameters := [.int, .int, .int, .int, .int], returnType := some .boolean }, accessFlags := 9, code := some k1c1 }
def k1c2 : Code := { maxStack := 2, maxLocals := 2, code := method_3_code, exceptionTable := #[], attributes := #[] }
def k1m2 : Method := { name := "ch", desc := "(II)C", sig := { parameters := [.int, .int], returnType := some .char }, accessFlags := 10, code := some k1c2 }
def k1c3 : Code := { maxStack := 7, maxLocals := 2, code := method_4_code, exceptionTable := #[], attributes := #[] }
def k1m3 : Method := { name := "take", desc := "([CI)Ljava/lang/String;", sig := { parameters := [(.array .char), .int], returnType := some (.object "java/lang/String") }, accessFlags := 10, code := some k1c3 }
/-- com/example/nudge_over_socket/nudgeoversocket/protocol/ChannelNamesIsOpenToPinLaw -/
def k1 : Class := { plain "com/example/nudge_over_socket/nudgeoversocket/protocol/ChannelNamesIsOpenToPinLaw" (some 0) with
  accessFlags := 49
  interfaces := #[]
  cf := some (fileOf pool1 8 #[] #[{ accessFlags := 1, nameIndex := 5, descriptorIndex := 6, attributes := #[] }, { accessFlags := 9, nameIndex := 30, descriptorIndex := 31, attributes := #[] }, { accessFlags := 10, nameIndex := 11, descriptorIndex := 12, attributes := #[] }, { accessFlags := 10, nameIndex := 15, descriptorIndex := 16, attributes := #[] }] 49 2 #[] #[])
  fields := #[]
  methods := #[k1m0, k1m1, k1m2, k1m3]
  instanceTypes := #[]
  staticTypes := #[]
  resolved := Array.replicate 37 none
  statics := none }

def pool2 : Array CpInfo := pool [(1, .class_ 2), (0, u "java/io/Serializable"), (0, .class_ 4), (0, u "java/lang/Object")] 2

/-- java/io/Serializable -/
def k2 : Class := { plain "java/io/Serializable" (some 0) with
  accessFlags := 1537
  interfaces := #[]
  cf := some (fileOf pool2 1 #[] #[] 1537 3 #[] #[])
  fields := #[]
  methods := #[]
  instanceTypes := #[]
  staticTypes := #[]
  resolved := Array.replicate 7 none
  statics := none }

def pool3 : Array CpInfo := pool [(1, .class_ 2), (0, u "java/lang/Comparable"), (0, .class_ 4), (0, u "java/lang/Object")] 7

/-- java/lang/Comparable -/
def k3 : Class := { plain "java/lang/Comparable" (some 0) with
  accessFlags := 1537
  interfaces := #[]
  cf := some (fileOf pool3 1 #[] #[] 1537 3 #[] #[])
  fields := #[]
  methods := #[]
  instanceTypes := #[]
  staticTypes := #[]
  resolved := Array.replicate 12 none
  statics := none }

def pool4 : Array CpInfo := pool [(2, .class_ 4), (1, u "java/lang/CharSequence"), (42, .class_ 48), (0, u "java/lang/CharSequence$1CodePointIterator"), (10, .class_ 60), (0, u "java/lang/CharSequence$1CharIterator"), (5, .class_ 67), (0, u "java/lang/Object")] 63

/-- java/lang/CharSequence -/
def k4 : Class := { plain "java/lang/CharSequence" (some 0) with
  accessFlags := 1537
  interfaces := #[]
  cf := some (fileOf pool4 2 #[.nestMembers #[47, 59]] #[] 1537 66 #[] #[])
  fields := #[]
  methods := #[]
  instanceTypes := #[]
  staticTypes := #[]
  resolved := Array.replicate 131 none
  statics := none }

def pool5 : Array CpInfo := pool [(1, .class_ 2), (0, u "java/lang/constant/Constable"), (0, .class_ 4), (0, u "java/lang/Object")] 6

/-- java/lang/constant/Constable -/
def k5 : Class := { plain "java/lang/constant/Constable" (some 0) with
  accessFlags := 1537
  interfaces := #[]
  cf := some (fileOf pool5 1 #[] #[] 1537 3 #[] #[])
  fields := #[]
  methods := #[]
  instanceTypes := #[]
  staticTypes := #[]
  resolved := Array.replicate 11 none
  statics := none }

def pool6 : Array CpInfo := pool [(1, .class_ 2), (0, u "java/lang/constant/ConstantDesc"), (0, .class_ 4), (0, u "java/lang/Object")] 32

/-- java/lang/constant/ConstantDesc -/
def k6 : Class := { plain "java/lang/constant/ConstantDesc" (some 0) with
  accessFlags := 1537
  interfaces := #[]
  cf := some (fileOf pool6 1 #[] #[] 1537 3 #[] #[])
  fields := #[]
  methods := #[]
  instanceTypes := #[]
  staticTypes := #[]
  resolved := Array.replicate 37 none
  statics := none }

def pool7 : Array CpInfo := pool [(1, .methodref 2 3), (0, .class_ 4), (0, .nameAndType 5 6), (0, u "java/lang/Object"), (0, u "<init>"), (0, u "()V"), (0, .string 8), (0, u ""), (0, .fieldref 10 11), (0, .class_ 12), (0, .nameAndType 13 14), (0, u "java/lang/String"), (0, u "value"), (0, u "[B"), (0, .fieldref 10 16), (0, .nameAndType 17 18), (0, u "coder"), (0, u "B"), (2, u "hash"), (0, u "I"), (2, u "hashIsZero"), (0, u "Z"), (0, .methodref 10 28), (0, .nameAndType 5 29), (0, u "([CIILjava/lang/Void;)V"), (8, .fieldref 10 39), (0, .nameAndType 40 26), (0, u "COMPACT_STRINGS"), (1, .class_ 44), (1, u "java/lang/StringUTF16"), (0, u "compress"), (1, .methodref 42 48), (0, .nameAndType 49 50), (0, u "coderFromArrayLen"), (0, u "([BI)B"), (56, .class_ 109), (1, u "java/lang/StringLatin1"), (32, u "()Z"), (34, .methodref 42 178), (0, .nameAndType 45 179), (0, u "([CII)[B"), (31, u "([BB)V"), (122, u "()I"), (0, .methodref 10 336), (0, .nameAndType 17 337), (0, u "()B"), (38, u "([BI[BII)I"), (115, .methodref 10 493), (0, .nameAndType 494 142), (0, u "isLatin1"), (10, .methodref 10 506), (0, .nameAndType 507 334), (0, u "length"), (5, u "checkFromToIndex"), (7, .methodref 10 522), (0, .nameAndType 523 524), (0, u "checkBoundsBeginEnd"), (0, u "(III)V"), (16, .methodref 107 542), (0, .nameAndType 543 544), (0, u "equals"), (0, u "([B[B)Z"), (14, .class_ 561), (1, u "jdk/internal/util/ArraysSupport"), (0, u "mismatch"), (10, u "(Ljava/lang/Object;)Z"), (1, .class_ 576), (0, u "java/lang/CharSequence"), (22, u "CASE_INSENSITIVE_ORDER"), (0, u "Ljava/util/Comparator;"), (6, .methodref 559 608), (0, .nameAndType 562 376), (15, .methodref 10 625), (0, .nameAndType 626 627), (0, u "startsWith"), (0, u "(Ljava/lang/String;I)Z"), (53, .methodref 10 682), (0, .nameAndType 683 684), (0, u "substring"), (0, u "(II)Ljava/lang/String;"), (0, .methodref 107 686), (0, .nameAndType 687 688), (0, u "newString"), (0, u "([BII)Ljava/lang/String;"), (203, u "(I)Ljava/lang/String;"), (117, u "([C)V"), (42, .fieldref 1054 1055), (0, .class_ 1056), (0, .nameAndType 1057 1058), (0, u "jdk/internal/util/Preconditions"), (0, u "SIOOBE_FORMATTER"), (0, u "Ljava/util/function/BiFunction;"), (3, .methodref 1054 1063), (0, .nameAndType 513 1064), (0, u "(IIILjava/util/function/BiFunction;)I"), (36, u "serialPersistentFields"), (0, u "[Ljava/io/ObjectStreamField;"), (0, .class_ 1104), (0, u "java/lang/String$CaseInsensitiveComparator"), (1, .class_ 1107), (0, u "java/io/Serializable"), (0, .class_ 1109), (0, u "java/lang/Comparable"), (0, .class_ 1111), (0, u "java/lang/constant/Constable"), (0, .class_ 1113), (0, u "java/lang/constant/ConstantDesc"), (2, u "serialVersionUID"), (0, u "J"), (3, u "REPL"), (0, u "C"), (2, u "LATIN1"), (1, u "UTF16"), (129, u "(Ljava/lang/String;)Z")] 193

def k7m0 : Method := { name := "<init>", desc := "()V", sig := { parameters := [], returnType := none }, accessFlags := 1, code := none }
def k7c1 : Code := { maxStack := 5, maxLocals := 2, code := jdk_42_method_3_code, exceptionTable := #[], attributes := #[] }
def k7m1 : Method := { name := "<init>", desc := "([C)V", sig := { parameters := [(.array .char)], returnType := none }, accessFlags := 1, code := some k7c1 }
def k7c2 : Code := { maxStack := 2, maxLocals := 1, code := jdk_42_method_54_code, exceptionTable := #[], attributes := #[] }
def k7m2 : Method := { name := "length", desc := "()I", sig := { parameters := [], returnType := some .int }, accessFlags := 1, code := some k7c2 }
def k7c3 : Code := { maxStack := 2, maxLocals := 3, code := jdk_42_method_66_code, exceptionTable := #[], attributes := #[] }
def k7m3 : Method := { name := "equals", desc := "(Ljava/lang/Object;)Z", sig := { parameters := [(.object "java/lang/Object")], returnType := some .boolean }, accessFlags := 1, code := some k7c3 }
def k7c4 : Code := { maxStack := 5, maxLocals := 8, code := jdk_42_method_75_code, exceptionTable := #[], attributes := #[] }
def k7m4 : Method := { name := "startsWith", desc := "(Ljava/lang/String;I)Z", sig := { parameters := [(.object "java/lang/String"), .int], returnType := some .boolean }, accessFlags := 1, code := some k7c4 }
def k7c5 : Code := { maxStack := 3, maxLocals := 2, code := jdk_42_method_76_code, exceptionTable := #[], attributes := #[] }
def k7m5 : Method := { name := "startsWith", desc := "(Ljava/lang/String;)Z", sig := { parameters := [(.object "java/lang/String")], returnType := some .boolean }, accessFlags := 1, code := some k7c5 }
def k7c6 : Code := { maxStack := 3, maxLocals := 2, code := jdk_42_method_91_code, exceptionTable := #[], attributes := #[] }
def k7m6 : Method := { name := "substring", desc := "(I)Ljava/lang/String;", sig := { parameters := [.int], returnType := some (.object "java/lang/String") }, accessFlags := 1, code := some k7c6 }
def k7c7 : Code := { maxStack := 3, maxLocals := 5, code := jdk_42_method_92_code, exceptionTable := #[], attributes := #[] }
def k7m7 : Method := { name := "substring", desc := "(II)Ljava/lang/String;", sig := { parameters := [.int, .int], returnType := some (.object "java/lang/String") }, accessFlags := 1, code := some k7c7 }
def k7c8 : Code := { maxStack := 4, maxLocals := 6, code := jdk_42_method_149_code, exceptionTable := #[], attributes := #[] }
def k7m8 : Method := { name := "<init>", desc := "([CIILjava/lang/Void;)V", sig := { parameters := [(.array .char), .int, .int, (.object "java/lang/Void")], returnType := none }, accessFlags := 2, code := some k7c8 }
def k7c9 : Code := { maxStack := 2, maxLocals := 3, code := jdk_42_method_151_code, exceptionTable := #[], attributes := #[] }
def k7m9 : Method := { name := "<init>", desc := "([BB)V", sig := { parameters := [(.array .byte), .byte], returnType := none }, accessFlags := 0, code := some k7c9 }
def k7c10 : Code := { maxStack := 1, maxLocals := 1, code := jdk_42_method_152_code, exceptionTable := #[], attributes := #[] }
def k7m10 : Method := { name := "coder", desc := "()B", sig := { parameters := [], returnType := some .byte }, accessFlags := 0, code := some k7c10 }
def k7c11 : Code := { maxStack := 1, maxLocals := 1, code := jdk_42_method_154_code, exceptionTable := #[], attributes := #[] }
def k7m11 : Method := { name := "isLatin1", desc := "()Z", sig := { parameters := [], returnType := some .boolean }, accessFlags := 0, code := some k7c11 }
def k7c12 : Code := { maxStack := 4, maxLocals := 3, code := jdk_42_method_158_code, exceptionTable := #[], attributes := #[] }
def k7m12 : Method := { name := "checkBoundsBeginEnd", desc := "(III)V", sig := { parameters := [.int, .int, .int], returnType := none }, accessFlags := 8, code := some k7c12 }
/-- java/lang/String -/
def k7 : Class := { plain "java/lang/String" (some 0) with
  accessFlags := 49
  interfaces := #[2, 3, 4, 5, 6]
  cf := some (fileOf pool7 10 #[.nestMembers #[1103]] #[{ accessFlags := 1, nameIndex := 5, descriptorIndex := 6, attributes := #[] }, { accessFlags := 1, nameIndex := 5, descriptorIndex := 1010, attributes := #[] }, { accessFlags := 1, nameIndex := 507, descriptorIndex := 334, attributes := #[] }, { accessFlags := 1, nameIndex := 543, descriptorIndex := 573, attributes := #[] }, { accessFlags := 1, nameIndex := 626, descriptorIndex := 627, attributes := #[] }, { accessFlags := 1, nameIndex := 626, descriptorIndex := 1257, attributes := #[] }, { accessFlags := 1, nameIndex := 683, descriptorIndex := 892, attributes := #[] }, { accessFlags := 1, nameIndex := 683, descriptorIndex := 684, attributes := #[] }, { accessFlags := 2, nameIndex := 5, descriptorIndex := 29, attributes := #[] }, { accessFlags := 0, nameIndex := 5, descriptorIndex := 211, attributes := #[] }, { accessFlags := 0, nameIndex := 17, descriptorIndex := 337, attributes := #[] }, { accessFlags := 0, nameIndex := 494, descriptorIndex := 142, attributes := #[] }, { accessFlags := 8, nameIndex := 523, descriptorIndex := 524, attributes := #[] }] 49 2 #[1106, 1108, 575, 1110, 1112] #[{ accessFlags := 18, nameIndex := 13, descriptorIndex := 14, attributes := #[] }, { accessFlags := 18, nameIndex := 17, descriptorIndex := 18, attributes := #[] }, { accessFlags := 2, nameIndex := 21, descriptorIndex := 22, attributes := #[] }, { accessFlags := 2, nameIndex := 25, descriptorIndex := 26, attributes := #[] }, { accessFlags := 26, nameIndex := 1116, descriptorIndex := 1117, attributes := #[] }, { accessFlags := 24, nameIndex := 40, descriptorIndex := 26, attributes := #[] }, { accessFlags := 26, nameIndex := 1101, descriptorIndex := 1102, attributes := #[] }, { accessFlags := 26, nameIndex := 1121, descriptorIndex := 1122, attributes := #[] }, { accessFlags := 25, nameIndex := 599, descriptorIndex := 600, attributes := #[] }, { accessFlags := 24, nameIndex := 1125, descriptorIndex := 18, attributes := #[] }, { accessFlags := 24, nameIndex := 1127, descriptorIndex := 18, attributes := #[] }])
  fields := #[{ name := "value", type := (.array .byte), accessFlags := 18, slot := 0, constantValue := 0 }, { name := "coder", type := .byte, accessFlags := 18, slot := 1, constantValue := 0 }, { name := "hash", type := .int, accessFlags := 2, slot := 2, constantValue := 0 }, { name := "hashIsZero", type := .boolean, accessFlags := 2, slot := 3, constantValue := 0 }, { name := "serialVersionUID", type := .long, accessFlags := 26, slot := 0, constantValue := 0 }, { name := "COMPACT_STRINGS", type := .boolean, accessFlags := 24, slot := 1, constantValue := 0 }, { name := "serialPersistentFields", type := (.array (.object "java/io/ObjectStreamField")), accessFlags := 26, slot := 2, constantValue := 0 }, { name := "REPL", type := .char, accessFlags := 26, slot := 3, constantValue := 0 }, { name := "CASE_INSENSITIVE_ORDER", type := (.object "java/util/Comparator"), accessFlags := 25, slot := 4, constantValue := 0 }, { name := "LATIN1", type := .byte, accessFlags := 24, slot := 5, constantValue := 0 }, { name := "UTF16", type := .byte, accessFlags := 24, slot := 6, constantValue := 0 }]
  methods := #[k7m0, k7m1, k7m2, k7m3, k7m4, k7m5, k7m6, k7m7, k7m8, k7m9, k7m10, k7m11, k7m12]
  instanceTypes := #[(.array .byte), .byte, .int, .boolean]
  staticTypes := #[.long, .boolean, (.array (.object "java/io/ObjectStreamField")), .char, (.object "java/util/Comparator"), .byte, .byte]
  resolved := Array.replicate 1451 none
  statics := some 0 }

def pool8 : Array CpInfo := pool [(1, .class_ 2), (0, u "com/example/nudge_over_socket/nudgeoversocket/protocol/ChannelNames"), (1, .class_ 6), (1, u "java/lang/Object"), (0, u "<init>"), (0, u "()V"), (2, u "VALID"), (0, u "Ljava/util/regex/Pattern;"), (30, .string 44), (0, u "user:"), (0, .methodref 46 47), (0, .class_ 48), (0, .nameAndType 49 50), (0, u "java/lang/String"), (0, u "startsWith"), (0, u "(Ljava/lang/String;)Z"), (0, .methodref 46 52), (0, .nameAndType 53 54), (0, u "length"), (0, u "()I"), (0, .methodref 46 56), (0, .nameAndType 57 58), (0, u "substring"), (0, u "(I)Ljava/lang/String;"), (0, .methodref 46 60), (0, .nameAndType 61 62), (0, u "equals"), (0, u "(Ljava/lang/Object;)Z"), (6, u "MAX_LENGTH"), (0, u "I"), (2, u "PRIVATE_PREFIX"), (0, u "Ljava/lang/String;"), (0, u "RULE"), (9, u "isOpenTo"), (0, u "(Ljava/lang/String;Ljava/lang/String;)Z")] 3

def k8m0 : Method := { name := "<init>", desc := "()V", sig := { parameters := [], returnType := none }, accessFlags := 2, code := none }
def k8c1 : Code := { maxStack := 2, maxLocals := 2, code := prog_17_method_4_code, exceptionTable := #[], attributes := #[] }
def k8m1 : Method := { name := "isOpenTo", desc := "(Ljava/lang/String;Ljava/lang/String;)Z", sig := { parameters := [(.object "java/lang/String"), (.object "java/lang/String")], returnType := some .boolean }, accessFlags := 9, code := some k8c1 }
/-- com/example/nudge_over_socket/nudgeoversocket/protocol/ChannelNames -/
def k8 : Class := { plain "com/example/nudge_over_socket/nudgeoversocket/protocol/ChannelNames" (some 0) with
  accessFlags := 33
  interfaces := #[]
  cf := some (fileOf pool8 1 #[] #[{ accessFlags := 2, nameIndex := 7, descriptorIndex := 8, attributes := #[] }, { accessFlags := 9, nameIndex := 85, descriptorIndex := 86, attributes := #[] }] 33 4 #[] #[{ accessFlags := 25, nameIndex := 69, descriptorIndex := 70, attributes := #[] }, { accessFlags := 26, nameIndex := 73, descriptorIndex := 74, attributes := #[] }, { accessFlags := 26, nameIndex := 75, descriptorIndex := 74, attributes := #[] }, { accessFlags := 26, nameIndex := 11, descriptorIndex := 12, attributes := #[] }])
  fields := #[{ name := "MAX_LENGTH", type := .int, accessFlags := 25, slot := 0, constantValue := 0 }, { name := "PRIVATE_PREFIX", type := (.object "java/lang/String"), accessFlags := 26, slot := 1, constantValue := 0 }, { name := "RULE", type := (.object "java/lang/String"), accessFlags := 26, slot := 2, constantValue := 0 }, { name := "VALID", type := (.object "java/util/regex/Pattern"), accessFlags := 26, slot := 3, constantValue := 0 }]
  methods := #[k8m0, k8m1]
  instanceTypes := #[]
  staticTypes := #[.int, (.object "java/lang/String"), (.object "java/lang/String"), (.object "java/util/regex/Pattern")]
  resolved := Array.replicate 90 none
  statics := none }

def pool9 : Array CpInfo := pool [(6, .class_ 8), (1, u "java/lang/Object"), (0, u "<init>"), (0, u "()V"), (1, .class_ 14), (1, u "java/lang/StringUTF16"), (31, u "$assertionsDisabled"), (0, u "Z"), (13, u "HI_BYTE_SHIFT"), (0, u "I"), (2, u "LO_BYTE_SHIFT"), (49, .methodref 12 116), (0, .nameAndType 117 118), (0, u "compress"), (0, u "([CI[BII)I"), (3, u "([CII)[B"), (138, u "coderFromArrayLen"), (0, u "([BI)B"), (106, .class_ 371), (1, u "java/lang/StringUTF16$LinesSpliterator"), (58, u "MAX_LENGTH"), (196, .class_ 628), (0, u "java/lang/StringUTF16$CodePointsSpliterator"), (0, .class_ 630), (0, u "java/lang/StringUTF16$CharsSpliterator")] 4

def k9m0 : Method := { name := "<init>", desc := "()V", sig := { parameters := [], returnType := none }, accessFlags := 0, code := none }
def k9c1 : Code := { maxStack := 2, maxLocals := 2, code := jdk_52_method_15_code, exceptionTable := #[], attributes := #[] }
def k9m1 : Method := { name := "coderFromArrayLen", desc := "([BI)B", sig := { parameters := [(.array .byte), .int], returnType := some .byte }, accessFlags := 8, code := some k9c1 }
def k9c2 : Code := { maxStack := 5, maxLocals := 6, code := jdk_52_method_16_code, exceptionTable := #[], attributes := #[] }
def k9m2 : Method := { name := "compress", desc := "([CII)[B", sig := { parameters := [(.array .char), .int, .int], returnType := some (.array .byte) }, accessFlags := 9, code := some k9c2 }
def k9c3 : Code := { maxStack := 3, maxLocals := 7, code := jdk_52_method_21_code, exceptionTable := #[], attributes := #[] }
def k9m3 : Method := { name := "compress", desc := "([CI[BII)I", sig := { parameters := [(.array .char), .int, (.array .byte), .int, .int], returnType := some .int }, accessFlags := 9, code := some k9c3 }
/-- java/lang/StringUTF16 -/
def k9 : Class := { plain "java/lang/StringUTF16" (some 0) with
  accessFlags := 48
  interfaces := #[]
  cf := some (fileOf pool9 12 #[.nestMembers #[627, 629, 369]] #[{ accessFlags := 0, nameIndex := 9, descriptorIndex := 10, attributes := #[] }, { accessFlags := 8, nameIndex := 261, descriptorIndex := 262, attributes := #[] }, { accessFlags := 9, nameIndex := 117, descriptorIndex := 122, attributes := #[] }, { accessFlags := 9, nameIndex := 117, descriptorIndex := 118, attributes := #[] }] 48 6 #[] #[{ accessFlags := 26, nameIndex := 61, descriptorIndex := 62, attributes := #[] }, { accessFlags := 26, nameIndex := 65, descriptorIndex := 62, attributes := #[] }, { accessFlags := 24, nameIndex := 430, descriptorIndex := 62, attributes := #[] }, { accessFlags := 4120, nameIndex := 46, descriptorIndex := 47, attributes := #[] }])
  fields := #[{ name := "HI_BYTE_SHIFT", type := .int, accessFlags := 26, slot := 0, constantValue := 0 }, { name := "LO_BYTE_SHIFT", type := .int, accessFlags := 26, slot := 1, constantValue := 0 }, { name := "MAX_LENGTH", type := .int, accessFlags := 24, slot := 2, constantValue := 0 }, { name := "$assertionsDisabled", type := .boolean, accessFlags := 4120, slot := 3, constantValue := 0 }]
  methods := #[k9m0, k9m1, k9m2, k9m3]
  instanceTypes := #[]
  staticTypes := #[.int, .int, .int, .boolean]
  resolved := Array.replicate 635 none
  statics := none }

def pool10 : Array CpInfo := pool [(9, u "<init>"), (6, .class_ 18), (1, u "java/lang/Object"), (0, u "()V"), (1, .class_ 23), (1, u "jdk/internal/util/ArraysSupport"), (0, u "LOG2_ARRAY_LONG_INDEX_SCALE"), (0, u "I"), (2, u "U"), (0, u "Ljdk/internal/misc/Unsafe;"), (8, u "BIG_ENDIAN"), (0, u "Z"), (8, u "LOG2_BYTE_BIT_SIZE"), (4, u "LOG2_ARRAY_INT_INDEX_SCALE"), (54, u "JLA"), (0, u "Ljdk/internal/access/JavaLangAccess;"), (11, u "LOG2_ARRAY_BOOLEAN_INDEX_SCALE"), (9, u "LOG2_ARRAY_BYTE_INDEX_SCALE"), (5, u "LOG2_ARRAY_CHAR_INDEX_SCALE"), (5, u "LOG2_ARRAY_SHORT_INDEX_SCALE"), (5, u "mismatch"), (12, u "LOG2_ARRAY_FLOAT_INDEX_SCALE"), (24, u "LOG2_ARRAY_DOUBLE_INDEX_SCALE"), (89, u "T_BOOLEAN"), (2, u "T_CHAR"), (1, u "T_FLOAT"), (1, u "T_DOUBLE"), (1, u "T_BYTE"), (1, u "T_SHORT"), (1, u "T_INT"), (1, u "T_LONG"), (1, u "SOFT_MAX_ARRAY_LENGTH"), (42, u "([BI[BII)I")] 40

def k10m0 : Method := { name := "<init>", desc := "()V", sig := { parameters := [], returnType := none }, accessFlags := 2, code := none }
def k10c1 : Code := { maxStack := 8, maxLocals := 8, code := jdk_48_method_14_code, exceptionTable := #[], attributes := #[] }
def k10m1 : Method := { name := "mismatch", desc := "([BI[BII)I", sig := { parameters := [(.array .byte), .int, (.array .byte), .int, .int], returnType := some .int }, accessFlags := 9, code := some k10c1 }
/-- jdk/internal/util/ArraysSupport -/
def k10 : Class := { plain "jdk/internal/util/ArraysSupport" (some 0) with
  accessFlags := 33
  interfaces := #[]
  cf := some (fileOf pool10 21 #[] #[{ accessFlags := 2, nameIndex := 9, descriptorIndex := 19, attributes := #[] }, { accessFlags := 9, nameIndex := 149, descriptorIndex := 337, attributes := #[] }] 33 16 #[] #[{ accessFlags := 24, nameIndex := 28, descriptorIndex := 29, attributes := #[] }, { accessFlags := 26, nameIndex := 38, descriptorIndex := 39, attributes := #[] }, { accessFlags := 25, nameIndex := 121, descriptorIndex := 25, attributes := #[] }, { accessFlags := 25, nameIndex := 131, descriptorIndex := 25, attributes := #[] }, { accessFlags := 25, nameIndex := 137, descriptorIndex := 25, attributes := #[] }, { accessFlags := 25, nameIndex := 143, descriptorIndex := 25, attributes := #[] }, { accessFlags := 25, nameIndex := 53, descriptorIndex := 25, attributes := #[] }, { accessFlags := 25, nameIndex := 24, descriptorIndex := 25, attributes := #[] }, { accessFlags := 25, nameIndex := 162, descriptorIndex := 25, attributes := #[] }, { accessFlags := 25, nameIndex := 187, descriptorIndex := 25, attributes := #[] }, { accessFlags := 26, nameIndex := 48, descriptorIndex := 25, attributes := #[] }, { accessFlags := 25, nameIndex := 277, descriptorIndex := 25, attributes := #[] }, { accessFlags := 25, nameIndex := 280, descriptorIndex := 25, attributes := #[] }, { accessFlags := 25, nameIndex := 282, descriptorIndex := 25, attributes := #[] }, { accessFlags := 25, nameIndex := 284, descriptorIndex := 25, attributes := #[] }, { accessFlags := 25, nameIndex := 286, descriptorIndex := 25, attributes := #[] }, { accessFlags := 25, nameIndex := 288, descriptorIndex := 25, attributes := #[] }, { accessFlags := 25, nameIndex := 290, descriptorIndex := 25, attributes := #[] }, { accessFlags := 25, nameIndex := 292, descriptorIndex := 25, attributes := #[] }, { accessFlags := 26, nameIndex := 108, descriptorIndex := 109, attributes := #[] }, { accessFlags := 25, nameIndex := 294, descriptorIndex := 25, attributes := #[] }])
  fields := #[{ name := "U", type := (.object "jdk/internal/misc/Unsafe"), accessFlags := 24, slot := 0, constantValue := 0 }, { name := "BIG_ENDIAN", type := .boolean, accessFlags := 26, slot := 1, constantValue := 0 }, { name := "LOG2_ARRAY_BOOLEAN_INDEX_SCALE", type := .int, accessFlags := 25, slot := 2, constantValue := 0 }, { name := "LOG2_ARRAY_BYTE_INDEX_SCALE", type := .int, accessFlags := 25, slot := 3, constantValue := 0 }, { name := "LOG2_ARRAY_CHAR_INDEX_SCALE", type := .int, accessFlags := 25, slot := 4, constantValue := 0 }, { name := "LOG2_ARRAY_SHORT_INDEX_SCALE", type := .int, accessFlags := 25, slot := 5, constantValue := 0 }, { name := "LOG2_ARRAY_INT_INDEX_SCALE", type := .int, accessFlags := 25, slot := 6, constantValue := 0 }, { name := "LOG2_ARRAY_LONG_INDEX_SCALE", type := .int, accessFlags := 25, slot := 7, constantValue := 0 }, { name := "LOG2_ARRAY_FLOAT_INDEX_SCALE", type := .int, accessFlags := 25, slot := 8, constantValue := 0 }, { name := "LOG2_ARRAY_DOUBLE_INDEX_SCALE", type := .int, accessFlags := 25, slot := 9, constantValue := 0 }, { name := "LOG2_BYTE_BIT_SIZE", type := .int, accessFlags := 26, slot := 10, constantValue := 0 }, { name := "T_BOOLEAN", type := .int, accessFlags := 25, slot := 11, constantValue := 0 }, { name := "T_CHAR", type := .int, accessFlags := 25, slot := 12, constantValue := 0 }, { name := "T_FLOAT", type := .int, accessFlags := 25, slot := 13, constantValue := 0 }, { name := "T_DOUBLE", type := .int, accessFlags := 25, slot := 14, constantValue := 0 }, { name := "T_BYTE", type := .int, accessFlags := 25, slot := 15, constantValue := 0 }, { name := "T_SHORT", type := .int, accessFlags := 25, slot := 16, constantValue := 0 }, { name := "T_INT", type := .int, accessFlags := 25, slot := 17, constantValue := 0 }, { name := "T_LONG", type := .int, accessFlags := 25, slot := 18, constantValue := 0 }, { name := "JLA", type := (.object "jdk/internal/access/JavaLangAccess"), accessFlags := 26, slot := 19, constantValue := 0 }, { name := "SOFT_MAX_ARRAY_LENGTH", type := .int, accessFlags := 25, slot := 20, constantValue := 0 }]
  methods := #[k10m0, k10m1]
  instanceTypes := #[]
  staticTypes := #[(.object "jdk/internal/misc/Unsafe"), .boolean, .int, .int, .int, .int, .int, .int, .int, .int, .int, .int, .int, .int, .int, .int, .int, .int, .int, (.object "jdk/internal/access/JavaLangAccess"), .int]
  resolved := Array.replicate 378 none
  statics := none }

def pool11 : Array CpInfo := pool [(2, .class_ 4), (1, u "java/lang/Object"), (0, u "<init>"), (0, u "()V"), (17, .class_ 26), (1, u "jdk/internal/util/Preconditions"), (20, u "checkFromToIndex"), (7, .class_ 56), (0, u "jdk/internal/util/Preconditions$4"), (57, .class_ 115), (0, u "jdk/internal/util/Preconditions$1"), (7, u "SIOOBE_FORMATTER"), (0, u "Ljava/util/function/BiFunction;"), (0, .class_ 126), (0, u "jdk/internal/util/Preconditions$2"), (3, u "AIOOBE_FORMATTER"), (0, .class_ 132), (0, u "jdk/internal/util/Preconditions$3"), (3, u "IOOBE_FORMATTER"), (46, u "(IIILjava/util/function/BiFunction;)I")] 10

def k11m0 : Method := { name := "<init>", desc := "()V", sig := { parameters := [], returnType := none }, accessFlags := 1, code := none }
def k11c1 : Code := { maxStack := 4, maxLocals := 4, code := jdk_41_method_12_code, exceptionTable := #[], attributes := #[] }
def k11m1 : Method := { name := "checkFromToIndex", desc := "(IIILjava/util/function/BiFunction;)I", sig := { parameters := [.int, .int, .int, (.object "java/util/function/BiFunction")], returnType := some .int }, accessFlags := 9, code := some k11c1 }
/-- jdk/internal/util/Preconditions -/
def k11 : Class := { plain "jdk/internal/util/Preconditions" (some 0) with
  accessFlags := 33
  interfaces := #[]
  cf := some (fileOf pool11 24 #[.nestMembers #[55, 131, 125, 114]] #[{ accessFlags := 1, nameIndex := 5, descriptorIndex := 6, attributes := #[] }, { accessFlags := 9, nameIndex := 47, descriptorIndex := 183, attributes := #[] }] 33 2 #[] #[{ accessFlags := 25, nameIndex := 123, descriptorIndex := 124, attributes := #[] }, { accessFlags := 25, nameIndex := 130, descriptorIndex := 124, attributes := #[] }, { accessFlags := 25, nameIndex := 136, descriptorIndex := 124, attributes := #[] }])
  fields := #[{ name := "SIOOBE_FORMATTER", type := (.object "java/util/function/BiFunction"), accessFlags := 25, slot := 0, constantValue := 0 }, { name := "AIOOBE_FORMATTER", type := (.object "java/util/function/BiFunction"), accessFlags := 25, slot := 1, constantValue := 0 }, { name := "IOOBE_FORMATTER", type := (.object "java/util/function/BiFunction"), accessFlags := 25, slot := 2, constantValue := 0 }]
  methods := #[k11m0, k11m1]
  instanceTypes := #[]
  staticTypes := #[(.object "java/util/function/BiFunction"), (.object "java/util/function/BiFunction"), (.object "java/util/function/BiFunction")]
  resolved := Array.replicate 194 none
  statics := some 1 }

def pool12 : Array CpInfo := pool [(1, .class_ 2), (0, u "java/lang/String"), (1, .class_ 6), (1, u "java/lang/Object"), (0, u "<init>"), (0, u "()V"), (5, .class_ 16), (1, u "java/lang/StringLatin1"), (95, .methodref 1 113), (0, .nameAndType 7 114), (0, u "([BB)V"), (6, u "$assertionsDisabled"), (0, u "Z"), (8, .class_ 133), (1, u "java/util/Arrays"), (17, .string 152), (0, u ""), (43, u "newString"), (0, u "([BII)Ljava/lang/String;"), (23, .class_ 223), (1, u "java/lang/StringLatin1$LinesSpliterator"), (8, .methodref 131 233), (0, .nameAndType 234 235), (0, u "copyOfRange"), (0, u "([BII)[B"), (45, u "equals"), (0, u "([B[B)Z"), (107, .class_ 391), (0, u "java/lang/StringLatin1$CharsSpliterator")] 3

def k12m0 : Method := { name := "<init>", desc := "()V", sig := { parameters := [], returnType := none }, accessFlags := 0, code := none }
def k12c1 : Code := { maxStack := 3, maxLocals := 3, code := jdk_43_method_13_code, exceptionTable := #[], attributes := #[] }
def k12m1 : Method := { name := "equals", desc := "([B[B)Z", sig := { parameters := [(.array .byte), (.array .byte)], returnType := some .boolean }, accessFlags := 9, code := some k12c1 }
def k12c2 : Code := { maxStack := 6, maxLocals := 3, code := jdk_43_method_47_code, exceptionTable := #[], attributes := #[] }
def k12m2 : Method := { name := "newString", desc := "([BII)Ljava/lang/String;", sig := { parameters := [(.array .byte), .int, .int], returnType := some (.object "java/lang/String") }, accessFlags := 9, code := some k12c2 }
/-- java/lang/StringLatin1 -/
def k12 : Class := { plain "java/lang/StringLatin1" (some 0) with
  accessFlags := 48
  interfaces := #[]
  cf := some (fileOf pool12 14 #[.nestMembers #[390, 221]] #[{ accessFlags := 0, nameIndex := 7, descriptorIndex := 8, attributes := #[] }, { accessFlags := 9, nameIndex := 281, descriptorIndex := 282, attributes := #[] }, { accessFlags := 9, nameIndex := 196, descriptorIndex := 197, attributes := #[] }] 48 4 #[] #[{ accessFlags := 4120, nameIndex := 121, descriptorIndex := 122, attributes := #[] }])
  fields := #[{ name := "$assertionsDisabled", type := .boolean, accessFlags := 4120, slot := 0, constantValue := 0 }]
  methods := #[k12m0, k12m1, k12m2]
  instanceTypes := #[]
  staticTypes := #[.boolean]
  resolved := Array.replicate 395 none
  statics := none }

def pool13 : Array CpInfo := pool [(2, .class_ 4), (1, u "java/lang/Object"), (0, u "<init>"), (0, u "()V"), (7, .class_ 16), (1, u "java/util/Arrays"), (57, .class_ 76), (1, u "java/util/Arrays$NaturalOrder"), (36, .class_ 115), (1, u "java/util/Arrays$LegacyMergeSort"), (1, u "Z"), (21, u "copyOfRange"), (10, .methodref 151 152), (0, .class_ 153), (0, .nameAndType 154 155), (0, u "java/lang/System"), (0, u "arraycopy"), (0, u "(Ljava/lang/Object;ILjava/lang/Object;II)V"), (148, .methodref 305 306), (0, .class_ 307), (0, .nameAndType 308 309), (0, u "java/lang/Math"), (0, u "min"), (0, u "(II)I"), (29, .methodref 14 340), (0, .nameAndType 341 342), (0, u "copyOfRangeByte"), (0, u "([BII)[B"), (0, .methodref 14 344), (0, .nameAndType 345 346), (0, u "checkLength"), (0, u "(II)V"), (28, .class_ 376), (0, u "java/util/Arrays$ArrayList"), (68, u "$assertionsDisabled"), (269, u "MIN_ARRAY_SORT_GRAN"), (0, u "I"), (2, u "INSERTIONSORT_THRESHOLD"), (255, .class_ 976), (0, u "java/util/Arrays$ArrayItr")] 52

def k13m0 : Method := { name := "<init>", desc := "()V", sig := { parameters := [], returnType := none }, accessFlags := 2, code := none }
def k13c1 : Code := { maxStack := 4, maxLocals := 2, code := jdk_65_method_131_code, exceptionTable := #[], attributes := #[] }
def k13m1 : Method := { name := "checkLength", desc := "(II)V", sig := { parameters := [.int, .int], returnType := none }, accessFlags := 10, code := some k13c1 }
def k13c2 : Code := { maxStack := 3, maxLocals := 3, code := jdk_65_method_132_code, exceptionTable := #[], attributes := #[] }
def k13m2 : Method := { name := "copyOfRange", desc := "([BII)[B", sig := { parameters := [(.array .byte), .int, .int], returnType := some (.array .byte) }, accessFlags := 9, code := some k13c2 }
def k13c3 : Code := { maxStack := 6, maxLocals := 5, code := jdk_65_method_133_code, exceptionTable := #[], attributes := #[] }
def k13m3 : Method := { name := "copyOfRangeByte", desc := "([BII)[B", sig := { parameters := [(.array .byte), .int, .int], returnType := some (.array .byte) }, accessFlags := 10, code := some k13c3 }
/-- java/util/Arrays -/
def k13 : Class := { plain "java/util/Arrays" (some 0) with
  accessFlags := 49
  interfaces := #[]
  cf := some (fileOf pool13 14 #[.nestMembers #[975, 375, 113, 74]] #[{ accessFlags := 2, nameIndex := 5, descriptorIndex := 6, attributes := #[] }, { accessFlags := 10, nameIndex := 345, descriptorIndex := 346, attributes := #[] }, { accessFlags := 9, nameIndex := 139, descriptorIndex := 342, attributes := #[] }, { accessFlags := 10, nameIndex := 341, descriptorIndex := 342, attributes := #[] }] 49 2 #[] #[{ accessFlags := 26, nameIndex := 715, descriptorIndex := 716, attributes := #[] }, { accessFlags := 26, nameIndex := 719, descriptorIndex := 716, attributes := #[] }, { accessFlags := 4120, nameIndex := 445, descriptorIndex := 117, attributes := #[] }])
  fields := #[{ name := "MIN_ARRAY_SORT_GRAN", type := .int, accessFlags := 26, slot := 0, constantValue := 0 }, { name := "INSERTIONSORT_THRESHOLD", type := .int, accessFlags := 26, slot := 1, constantValue := 0 }, { name := "$assertionsDisabled", type := .boolean, accessFlags := 4120, slot := 2, constantValue := 0 }]
  methods := #[k13m0, k13m1, k13m2, k13m3]
  instanceTypes := #[]
  staticTypes := #[.int, .int, .boolean]
  resolved := Array.replicate 1029 none
  statics := none }

def pool14 : Array CpInfo := pool [(1, .class_ 2), (0, u "java/lang/Math"), (1, .class_ 6), (1, u "java/lang/Object"), (0, u "<init>"), (0, u "()V"), (89, .class_ 100), (1, u "java/lang/Math$RandomNumberGeneratorHolder"), (71, u "negativeZeroFloatBits"), (0, u "J"), (2, u "negativeZeroDoubleBits"), (24, u "min"), (43, u "$assertionsDisabled"), (0, u "Z"), (88, u "(II)I"), (2, u "twoToTheDoubleScaleDown"), (0, u "D"), (4, u "twoToTheDoubleScaleUp"), (9, u "E"), (3, u "PI"), (2, u "TAU"), (2, u "DEGREES_TO_RADIANS"), (0, u "RADIANS_TO_DEGREES")] 94

def k14m0 : Method := { name := "<init>", desc := "()V", sig := { parameters := [], returnType := none }, accessFlags := 2, code := none }
def k14c1 : Code := { maxStack := 2, maxLocals := 2, code := jdk_29_method_69_code, exceptionTable := #[], attributes := #[] }
def k14m1 : Method := { name := "min", desc := "(II)I", sig := { parameters := [.int, .int], returnType := some .int }, accessFlags := 9, code := some k14c1 }
/-- java/lang/Math -/
def k14 : Class := { plain "java/lang/Math" (some 0) with
  accessFlags := 49
  interfaces := #[]
  cf := some (fileOf pool14 1 #[.nestMembers #[98]] #[{ accessFlags := 2, nameIndex := 7, descriptorIndex := 8, attributes := #[] }, { accessFlags := 9, nameIndex := 201, descriptorIndex := 335, attributes := #[] }] 49 4 #[] #[{ accessFlags := 25, nameIndex := 354, descriptorIndex := 339, attributes := #[] }, { accessFlags := 25, nameIndex := 358, descriptorIndex := 339, attributes := #[] }, { accessFlags := 25, nameIndex := 361, descriptorIndex := 339, attributes := #[] }, { accessFlags := 26, nameIndex := 364, descriptorIndex := 339, attributes := #[] }, { accessFlags := 26, nameIndex := 365, descriptorIndex := 339, attributes := #[] }, { accessFlags := 26, nameIndex := 172, descriptorIndex := 173, attributes := #[] }, { accessFlags := 26, nameIndex := 176, descriptorIndex := 173, attributes := #[] }, { accessFlags := 8, nameIndex := 344, descriptorIndex := 339, attributes := #[] }, { accessFlags := 8, nameIndex := 338, descriptorIndex := 339, attributes := #[] }, { accessFlags := 4120, nameIndex := 245, descriptorIndex := 246, attributes := #[] }])
  fields := #[{ name := "E", type := .double, accessFlags := 25, slot := 0, constantValue := 0 }, { name := "PI", type := .double, accessFlags := 25, slot := 1, constantValue := 0 }, { name := "TAU", type := .double, accessFlags := 25, slot := 2, constantValue := 0 }, { name := "DEGREES_TO_RADIANS", type := .double, accessFlags := 26, slot := 3, constantValue := 0 }, { name := "RADIANS_TO_DEGREES", type := .double, accessFlags := 26, slot := 4, constantValue := 0 }, { name := "negativeZeroFloatBits", type := .long, accessFlags := 26, slot := 5, constantValue := 0 }, { name := "negativeZeroDoubleBits", type := .long, accessFlags := 26, slot := 6, constantValue := 0 }, { name := "twoToTheDoubleScaleUp", type := .double, accessFlags := 8, slot := 7, constantValue := 0 }, { name := "twoToTheDoubleScaleDown", type := .double, accessFlags := 8, slot := 8, constantValue := 0 }, { name := "$assertionsDisabled", type := .boolean, accessFlags := 4120, slot := 9, constantValue := 0 }]
  methods := #[k14m0, k14m1]
  instanceTypes := #[]
  staticTypes := #[.double, .double, .double, .double, .double, .long, .long, .double, .double, .boolean]
  resolved := Array.replicate 460 none
  statics := none }

def pool15 : Array CpInfo := pool [(2, .class_ 4), (1, u "java/lang/Object"), (0, u "<init>"), (0, u "()V"), (1, .class_ 10), (1, u "java/lang/System"), (0, u "allowSecurityManager"), (0, u "I"), (16, u "cons"), (0, u "Ljava/io/Console;"), (77, .class_ 110), (1, u "java/lang/System$CallersHolder"), (43, u "initialErrStream"), (0, u "Ljava/io/PrintStream;"), (19, u "security"), (0, u "Ljava/lang/SecurityManager;"), (31, .class_ 209), (0, u "java/lang/System$1"), (7, u "props"), (0, u "Ljava/util/Properties;"), (2, u "lineSeparator"), (0, u "Ljava/lang/String;"), (96, .class_ 321), (1, u "java/lang/System$LoggerFinder"), (5, .class_ 328), (0, u "java/lang/System$Logger"), (67, u "err"), (2, u "out"), (91, u "notSupportedJnuEncoding"), (15, u "in"), (17, u "initialIn"), (0, u "Ljava/io/InputStream;"), (35, u "bootLayer"), (0, u "Ljava/lang/ModuleLayer;"), (99, .class_ 664), (0, u "java/lang/System$2"), (9, u "NEVER"), (2, u "MAYBE"), (49, u "arraycopy"), (0, u "(Ljava/lang/Object;ILjava/lang/Object;II)V"), (72, .class_ 802), (0, u "java/lang/System$Logger$Level")] 31

def k15m0 : Method := { name := "<init>", desc := "()V", sig := { parameters := [], returnType := none }, accessFlags := 2, code := none }
def k15m1 : Method := { name := "arraycopy", desc := "(Ljava/lang/Object;ILjava/lang/Object;II)V", sig := { parameters := [(.object "java/lang/Object"), .int, (.object "java/lang/Object"), .int, .int], returnType := none }, accessFlags := 265, code := none }
/-- java/lang/System -/
def k15 : Class := { plain "java/lang/System" (some 0) with
  accessFlags := 49
  interfaces := #[]
  cf := some (fileOf pool15 8 #[.nestMembers #[319, 327, 801, 108, 663, 208]] #[{ accessFlags := 2, nameIndex := 5, descriptorIndex := 6, attributes := #[] }, { accessFlags := 265, nameIndex := 727, descriptorIndex := 728, attributes := #[] }] 49 2 #[] #[{ accessFlags := 25, nameIndex := 507, descriptorIndex := 526, attributes := #[] }, { accessFlags := 25, nameIndex := 399, descriptorIndex := 155, attributes := #[] }, { accessFlags := 25, nameIndex := 396, descriptorIndex := 155, attributes := #[] }, { accessFlags := 10, nameIndex := 525, descriptorIndex := 526, attributes := #[] }, { accessFlags := 26, nameIndex := 674, descriptorIndex := 12, attributes := #[] }, { accessFlags := 26, nameIndex := 677, descriptorIndex := 12, attributes := #[] }, { accessFlags := 10, nameIndex := 11, descriptorIndex := 12, attributes := #[] }, { accessFlags := 74, nameIndex := 175, descriptorIndex := 176, attributes := #[] }, { accessFlags := 10, nameIndex := 491, descriptorIndex := 222, attributes := #[] }, { accessFlags := 74, nameIndex := 29, descriptorIndex := 30, attributes := #[] }, { accessFlags := 74, nameIndex := 154, descriptorIndex := 155, attributes := #[] }, { accessFlags := 10, nameIndex := 217, descriptorIndex := 218, attributes := #[] }, { accessFlags := 10, nameIndex := 221, descriptorIndex := 222, attributes := #[] }, { accessFlags := 8, nameIndex := 562, descriptorIndex := 563, attributes := #[] }])
  fields := #[{ name := "in", type := (.object "java/io/InputStream"), accessFlags := 25, slot := 0, constantValue := 0 }, { name := "out", type := (.object "java/io/PrintStream"), accessFlags := 25, slot := 1, constantValue := 0 }, { name := "err", type := (.object "java/io/PrintStream"), accessFlags := 25, slot := 2, constantValue := 0 }, { name := "initialIn", type := (.object "java/io/InputStream"), accessFlags := 10, slot := 3, constantValue := 0 }, { name := "NEVER", type := .int, accessFlags := 26, slot := 4, constantValue := 0 }, { name := "MAYBE", type := .int, accessFlags := 26, slot := 5, constantValue := 0 }, { name := "allowSecurityManager", type := .int, accessFlags := 10, slot := 6, constantValue := 0 }, { name := "security", type := (.object "java/lang/SecurityManager"), accessFlags := 74, slot := 7, constantValue := 0 }, { name := "notSupportedJnuEncoding", type := (.object "java/lang/String"), accessFlags := 10, slot := 8, constantValue := 0 }, { name := "cons", type := (.object "java/io/Console"), accessFlags := 74, slot := 9, constantValue := 0 }, { name := "initialErrStream", type := (.object "java/io/PrintStream"), accessFlags := 74, slot := 10, constantValue := 0 }, { name := "props", type := (.object "java/util/Properties"), accessFlags := 10, slot := 11, constantValue := 0 }, { name := "lineSeparator", type := (.object "java/lang/String"), accessFlags := 10, slot := 12, constantValue := 0 }, { name := "bootLayer", type := (.object "java/lang/ModuleLayer"), accessFlags := 8, slot := 13, constantValue := 0 }]
  methods := #[k15m0, k15m1]
  instanceTypes := #[]
  staticTypes := #[(.object "java/io/InputStream"), (.object "java/io/PrintStream"), (.object "java/io/PrintStream"), (.object "java/io/InputStream"), .int, .int, .int, (.object "java/lang/SecurityManager"), (.object "java/lang/String"), (.object "java/io/Console"), (.object "java/io/PrintStream"), (.object "java/util/Properties"), (.object "java/lang/String"), (.object "java/lang/ModuleLayer")]
  resolved := Array.replicate 834 none
  statics := none }

def pool16 : Array CpInfo := pool [(1, u "java/lang/Cloneable"), (0, .class_ 1), (0, u "java/lang/Object"), (0, .class_ 3)] 3

/-- java/lang/Cloneable -/
def k16 : Class := { plain "java/lang/Cloneable" (some 0) with
  accessFlags := 1537
  interfaces := #[]
  cf := some (fileOf pool16 2 #[] #[] 1537 4 #[] #[])
  fields := #[]
  methods := #[]
  instanceTypes := #[]
  staticTypes := #[]
  resolved := Array.replicate 8 none
  statics := none }

/-- the primitive byte -/
def k17 : Class := { plain "byte" none with kind := .primitive 'B', accessFlags := 0x411 }
/-- [B -/
def k18 : Class := { plain "[B" (some 0) with kind := .array 17 .byte, interfaces := #[16, 2], accessFlags := 1041 }

/-- the primitive char -/
def k19 : Class := { plain "char" none with kind := .primitive 'C', accessFlags := 0x411 }
/-- [C -/
def k20 : Class := { plain "[C" (some 0) with kind := .array 19 .char, interfaces := #[16, 2], accessFlags := 1041 }

/-- the primitive int -/
def k21 : Class := { plain "int" none with kind := .primitive 'I', accessFlags := 0x411 }
/-- [I -/
def k22 : Class := { plain "[I" (some 0) with kind := .array 21 .int, interfaces := #[16, 2], accessFlags := 1041 }

def heap : Heap := #[{ cls := 7, slots := #[.long 0, .int 1, .null, .int 0, .null, .int 0, .int 0], vm := .statics 7 },
  { cls := 11, slots := #[.null, .null, .null], vm := .statics 11 }]
def classes : Array Class := #[k0, k1, k2, k3, k4, k5, k6, k7, k8, k9, k10, k11, k12, k13, k14, k15, k16, k17, k18, k19, k20, k21, k22]
def interned : List (Array UInt16 × Addr) := []
def slotsUsed : Nat := 10
def theMethod : MethodId := ⟨1, 1⟩
def args0 : Array Value := #[.int 5, .int 5, .int 5, .int 5, .int 5]
def aboutOver (below : List Frame) : State where
  vm := { classes := classes, interned := interned.toArray }
  heap := heap
  slotsUsed := slotsUsed
  threads := #[{ frames := .invoking theMethod args0 :: below }]
def below0 : List Frame := [.native { method := ⟨0, 0⟩, args := #[] }]
def about1 : State := aboutOver below0
def p0 : Program := .bare "" "" ""
def e0 : Env := launch0.env 0 0 0
theorem w_frames : about1.frames = Frame.invoking theMethod args0 :: below0 := rfl
set_option maxRecDepth 65536 in
theorem w_args : argsFit about1.vm theMethod args0 = true := by decide +kernel
set_option maxRecDepth 65536 in
theorem w_heap : heapFits about1 = true := by decide +kernel
set_option maxRecDepth 65536 in
theorem w_runnable : about1.curStatus? = some .runnable := by decide +kernel
set_option maxRecDepth 65536 in
theorem w_alone : about1.alone = true := by decide +kernel
set_option maxRecDepth 65536 in
theorem w_named : about1.methodNamed? x = some theMethod := by decide +kernel
set_option maxRecDepth 65536 in
theorem w_hears : about1.hears theMethod below0 = true := by decide +kernel
set_option maxRecDepth 65536 in
theorem w_ripe : about1.ripe theMethod args0 below0 = true := by decide +kernel
theorem w_running : about1.status = .running := rfl
set_option maxRecDepth 65536 in
theorem w_room : about1.hasRoom e0.platform room_1 = true :=
  launch0.hasRoom_least _ room_1 (by decide +kernel) (by decide +kernel) (by decide +kernel) (by decide +kernel) (by decide +kernel) (by decide +kernel)
theorem allAtoms_all (ts : List Jvm.Cond) (a : Array Jvm.Value) (st : Jvm.State) : (allAtoms ts).before a st = ts.all (fun c => c.before a st) := by
  induction ts with
  | nil => rfl
  | cons c t ih =>
    show (Jvm.Cond.and c (allAtoms t)).before a st = _
    rw [Jvm.Cond.before_and, ih, List.all_cons]
def words1 : List Jvm.Cond := Jvm.Cond.code x code maxLocals ret :: tables_1
/-- a 'code' word, met by the world's own term for the bytes: nothing is compared byte by byte -/
theorem code_word {y : MethodName} {bytes : ByteArray} {mx : Nat} {rt : Option FieldType} {a : Array Value} {s : State} {m : MethodId} {meth : Method} {c : Code} (h1 : s.methodNamed? y = some m) (h2 : s.vm.method? m = some meth) (h3 : meth.code = some c) (h4 : c.code = bytes)
    (h5 : (c.maxLocals == mx && c.exceptionTable.isEmpty && decide (c.maxStack ≤ mostOperands) && decide (meth.sig.returnType = rt) && !meth.locks && decide (parseMethodDescriptor y.desc = some meth.sig)) = true) : (Jvm.Cond.code y bytes mx rt).before a s = true := by
  simp only [Bool.and_eq_true, beq_iff_eq, Bool.not_eq_true', decide_eq_true_eq] at h5
  obtain ⟨⟨⟨⟨⟨g1, g2⟩, g3⟩, g4⟩, g5⟩, g6⟩ := h5
  simp [Cond.before, Cond.holds, Cond.value, h1, h2, h3, h4, g1, g2, g3, g4, g5, g6]
def isCode : Jvm.Cond → Bool
  | .code _ _ _ _ => true
  | _ => false
theorem all_split {L : List Jvm.Cond} {P : Jvm.Cond → Bool} (h1 : L.all (fun c => isCode c || P c) = true) (h2 : ∀ c ∈ L.filter isCode, P c = true) : L.all P = true := by
  refine List.all_eq_true.mpr fun c hc => ?_
  have h := List.all_eq_true.mp h1 c hc
  rcases Bool.eq_false_or_eq_true (isCode c) with hi | hi
  · exact h2 c (List.mem_filter.mpr ⟨hc, hi⟩)
  · simpa [hi] using h
set_option maxRecDepth 65536 in
theorem w_c0 : (Jvm.Cond.code x code maxLocals ret).before args0 about1 = true := code_word (m := ⟨1, 1⟩) (meth := k1m1) (c := k1c1) (by decide +kernel) rfl rfl rfl (by decide +kernel)
set_option maxRecDepth 65536 in
theorem w_c1 : (Jvm.Cond.code ({ cls := "com/example/nudge_over_socket/nudgeoversocket/protocol/ChannelNamesIsOpenToPinLaw", name := "ch", desc := "(II)C" } : Jvm.MethodName) method_3_code (2 : Nat) (Option.some Jvm.ClassFile.FieldType.char)).before args0 about1 = true := code_word (m := ⟨1, 2⟩) (meth := k1m2) (c := k1c2) (by decide +kernel) rfl rfl rfl (by decide +kernel)
set_option maxRecDepth 65536 in
theorem w_c2 : (Jvm.Cond.code ({ cls := "com/example/nudge_over_socket/nudgeoversocket/protocol/ChannelNamesIsOpenToPinLaw", name := "take", desc := "([CI)Ljava/lang/String;" } : Jvm.MethodName) method_4_code (2 : Nat) (Option.some (Jvm.ClassFile.FieldType.object "java/lang/String"))).before args0 about1 = true := code_word (m := ⟨1, 3⟩) (meth := k1m3) (c := k1c3) (by decide +kernel) rfl rfl rfl (by decide +kernel)
set_option maxRecDepth 65536 in
theorem w_c3 : (Jvm.Cond.code ({ cls := "java/lang/String", name := "<init>", desc := "([C)V" } : Jvm.MethodName) jdk_42_method_3_code (2 : Nat) (Option.none : Option Jvm.ClassFile.FieldType)).before args0 about1 = true := code_word (m := ⟨7, 1⟩) (meth := k7m1) (c := k7c1) (by decide +kernel) rfl rfl rfl (by decide +kernel)
set_option maxRecDepth 65536 in
theorem w_c4 : (Jvm.Cond.code ({ cls := "java/lang/String", name := "<init>", desc := "([CIILjava/lang/Void;)V" } : Jvm.MethodName) jdk_42_method_149_code (6 : Nat) (Option.none : Option Jvm.ClassFile.FieldType)).before args0 about1 = true := code_word (m := ⟨7, 8⟩) (meth := k7m8) (c := k7c8) (by decide +kernel) rfl rfl rfl (by decide +kernel)
set_option maxRecDepth 65536 in
theorem w_c5 : (Jvm.Cond.code ({ cls := "java/lang/Object", name := "<init>", desc := "()V" } : Jvm.MethodName) object_method_1_code (1 : Nat) (Option.none : Option Jvm.ClassFile.FieldType)).before args0 about1 = true := code_word (m := ⟨0, 0⟩) (meth := k0m0) (c := k0c0) (by decide +kernel) rfl rfl rfl (by decide +kernel)
set_option maxRecDepth 65536 in
theorem w_c6 : (Jvm.Cond.code ({ cls := "com/example/nudge_over_socket/nudgeoversocket/protocol/ChannelNames", name := "isOpenTo", desc := "(Ljava/lang/String;Ljava/lang/String;)Z" } : Jvm.MethodName) prog_17_method_4_code (2 : Nat) (Option.some Jvm.ClassFile.FieldType.boolean)).before args0 about1 = true := code_word (m := ⟨8, 1⟩) (meth := k8m1) (c := k8c1) (by decide +kernel) rfl rfl rfl (by decide +kernel)
set_option maxRecDepth 65536 in
theorem w_c7 : (Jvm.Cond.code ({ cls := "java/lang/String", name := "startsWith", desc := "(Ljava/lang/String;)Z" } : Jvm.MethodName) jdk_42_method_76_code (2 : Nat) (Option.some Jvm.ClassFile.FieldType.boolean)).before args0 about1 = true := code_word (m := ⟨7, 5⟩) (meth := k7m5) (c := k7c5) (by decide +kernel) rfl rfl rfl (by decide +kernel)
set_option maxRecDepth 65536 in
theorem w_c8 : (Jvm.Cond.code ({ cls := "java/lang/String", name := "startsWith", desc := "(Ljava/lang/String;I)Z" } : Jvm.MethodName) jdk_42_method_75_code (8 : Nat) (Option.some Jvm.ClassFile.FieldType.boolean)).before args0 about1 = true := code_word (m := ⟨7, 4⟩) (meth := k7m4) (c := k7c4) (by decide +kernel) rfl rfl rfl (by decide +kernel)
set_option maxRecDepth 65536 in
theorem w_c9 : (Jvm.Cond.code ({ cls := "java/lang/String", name := "length", desc := "()I" } : Jvm.MethodName) jdk_42_method_54_code (1 : Nat) (Option.some Jvm.ClassFile.FieldType.int)).before args0 about1 = true := code_word (m := ⟨7, 2⟩) (meth := k7m2) (c := k7c2) (by decide +kernel) rfl rfl rfl (by decide +kernel)
set_option maxRecDepth 65536 in
theorem w_c10 : (Jvm.Cond.code ({ cls := "java/lang/String", name := "coder", desc := "()B" } : Jvm.MethodName) jdk_42_method_152_code (1 : Nat) (Option.some Jvm.ClassFile.FieldType.byte)).before args0 about1 = true := code_word (m := ⟨7, 10⟩) (meth := k7m10) (c := k7c10) (by decide +kernel) rfl rfl rfl (by decide +kernel)
set_option maxRecDepth 65536 in
theorem w_c11 : (Jvm.Cond.code ({ cls := "java/lang/StringUTF16", name := "compress", desc := "([CII)[B" } : Jvm.MethodName) jdk_52_method_16_code (6 : Nat) (Option.some (Jvm.ClassFile.FieldType.array Jvm.ClassFile.FieldType.byte))).before args0 about1 = true := code_word (m := ⟨9, 2⟩) (meth := k9m2) (c := k9c2) (by decide +kernel) rfl rfl rfl (by decide +kernel)
set_option maxRecDepth 65536 in
theorem w_c12 : (Jvm.Cond.code ({ cls := "java/lang/StringUTF16", name := "compress", desc := "([CI[BII)I" } : Jvm.MethodName) jdk_52_method_21_code (7 : Nat) (Option.some Jvm.ClassFile.FieldType.int)).before args0 about1 = true := code_word (m := ⟨9, 3⟩) (meth := k9m3) (c := k9c3) (by decide +kernel) rfl rfl rfl (by decide +kernel)
set_option maxRecDepth 65536 in
theorem w_c13 : (Jvm.Cond.code ({ cls := "java/lang/StringUTF16", name := "coderFromArrayLen", desc := "([BI)B" } : Jvm.MethodName) jdk_52_method_15_code (2 : Nat) (Option.some Jvm.ClassFile.FieldType.byte)).before args0 about1 = true := code_word (m := ⟨9, 1⟩) (meth := k9m1) (c := k9c1) (by decide +kernel) rfl rfl rfl (by decide +kernel)
set_option maxRecDepth 65536 in
theorem w_c14 : (Jvm.Cond.code ({ cls := "jdk/internal/util/ArraysSupport", name := "mismatch", desc := "([BI[BII)I" } : Jvm.MethodName) jdk_48_method_14_code (8 : Nat) (Option.some Jvm.ClassFile.FieldType.int)).before args0 about1 = true := code_word (m := ⟨10, 1⟩) (meth := k10m1) (c := k10c1) (by decide +kernel) rfl rfl rfl (by decide +kernel)
set_option maxRecDepth 65536 in
theorem w_c15 : (Jvm.Cond.code ({ cls := "java/lang/String", name := "substring", desc := "(I)Ljava/lang/String;" } : Jvm.MethodName) jdk_42_method_91_code (2 : Nat) (Option.some (Jvm.ClassFile.FieldType.object "java/lang/String"))).before args0 about1 = true := code_word (m := ⟨7, 6⟩) (meth := k7m6) (c := k7c6) (by decide +kernel) rfl rfl rfl (by decide +kernel)
set_option maxRecDepth 65536 in
theorem w_c16 : (Jvm.Cond.code ({ cls := "java/lang/String", name := "substring", desc := "(II)Ljava/lang/String;" } : Jvm.MethodName) jdk_42_method_92_code (5 : Nat) (Option.some (Jvm.ClassFile.FieldType.object "java/lang/String"))).before args0 about1 = true := code_word (m := ⟨7, 7⟩) (meth := k7m7) (c := k7c7) (by decide +kernel) rfl rfl rfl (by decide +kernel)
set_option maxRecDepth 65536 in
theorem w_c17 : (Jvm.Cond.code ({ cls := "java/lang/String", name := "checkBoundsBeginEnd", desc := "(III)V" } : Jvm.MethodName) jdk_42_method_158_code (3 : Nat) (Option.none : Option Jvm.ClassFile.FieldType)).before args0 about1 = true := code_word (m := ⟨7, 12⟩) (meth := k7m12) (c := k7c12) (by decide +kernel) rfl rfl rfl (by decide +kernel)
set_option maxRecDepth 65536 in
theorem w_c18 : (Jvm.Cond.code ({ cls := "jdk/internal/util/Preconditions", name := "checkFromToIndex", desc := "(IIILjava/util/function/BiFunction;)I" } : Jvm.MethodName) jdk_41_method_12_code (4 : Nat) (Option.some Jvm.ClassFile.FieldType.int)).before args0 about1 = true := code_word (m := ⟨11, 1⟩) (meth := k11m1) (c := k11c1) (by decide +kernel) rfl rfl rfl (by decide +kernel)
set_option maxRecDepth 65536 in
theorem w_c19 : (Jvm.Cond.code ({ cls := "java/lang/String", name := "isLatin1", desc := "()Z" } : Jvm.MethodName) jdk_42_method_154_code (1 : Nat) (Option.some Jvm.ClassFile.FieldType.boolean)).before args0 about1 = true := code_word (m := ⟨7, 11⟩) (meth := k7m11) (c := k7c11) (by decide +kernel) rfl rfl rfl (by decide +kernel)
set_option maxRecDepth 65536 in
theorem w_c20 : (Jvm.Cond.code ({ cls := "java/lang/StringLatin1", name := "newString", desc := "([BII)Ljava/lang/String;" } : Jvm.MethodName) jdk_43_method_47_code (3 : Nat) (Option.some (Jvm.ClassFile.FieldType.object "java/lang/String"))).before args0 about1 = true := code_word (m := ⟨12, 2⟩) (meth := k12m2) (c := k12c2) (by decide +kernel) rfl rfl rfl (by decide +kernel)
set_option maxRecDepth 65536 in
theorem w_c21 : (Jvm.Cond.code ({ cls := "java/lang/String", name := "equals", desc := "(Ljava/lang/Object;)Z" } : Jvm.MethodName) jdk_42_method_66_code (3 : Nat) (Option.some Jvm.ClassFile.FieldType.boolean)).before args0 about1 = true := code_word (m := ⟨7, 3⟩) (meth := k7m3) (c := k7c3) (by decide +kernel) rfl rfl rfl (by decide +kernel)
set_option maxRecDepth 65536 in
theorem w_c22 : (Jvm.Cond.code ({ cls := "java/lang/StringLatin1", name := "equals", desc := "([B[B)Z" } : Jvm.MethodName) jdk_43_method_13_code (3 : Nat) (Option.some Jvm.ClassFile.FieldType.boolean)).before args0 about1 = true := code_word (m := ⟨12, 1⟩) (meth := k12m1) (c := k12c1) (by decide +kernel) rfl rfl rfl (by decide +kernel)
set_option maxRecDepth 65536 in
theorem w_c23 : (Jvm.Cond.code ({ cls := "java/util/Arrays", name := "copyOfRange", desc := "([BII)[B" } : Jvm.MethodName) jdk_65_method_132_code (3 : Nat) (Option.some (Jvm.ClassFile.FieldType.array Jvm.ClassFile.FieldType.byte))).before args0 about1 = true := code_word (m := ⟨13, 2⟩) (meth := k13m2) (c := k13c2) (by decide +kernel) rfl rfl rfl (by decide +kernel)
set_option maxRecDepth 65536 in
theorem w_c24 : (Jvm.Cond.code ({ cls := "java/util/Arrays", name := "copyOfRangeByte", desc := "([BII)[B" } : Jvm.MethodName) jdk_65_method_133_code (5 : Nat) (Option.some (Jvm.ClassFile.FieldType.array Jvm.ClassFile.FieldType.byte))).before args0 about1 = true := code_word (m := ⟨13, 3⟩) (meth := k13m3) (c := k13c3) (by decide +kernel) rfl rfl rfl (by decide +kernel)
set_option maxRecDepth 65536 in
theorem w_c25 : (Jvm.Cond.code ({ cls := "java/util/Arrays", name := "checkLength", desc := "(II)V" } : Jvm.MethodName) jdk_65_method_131_code (2 : Nat) (Option.none : Option Jvm.ClassFile.FieldType)).before args0 about1 = true := code_word (m := ⟨13, 1⟩) (meth := k13m1) (c := k13c1) (by decide +kernel) rfl rfl rfl (by decide +kernel)
set_option maxRecDepth 65536 in
theorem w_c26 : (Jvm.Cond.code ({ cls := "java/lang/Math", name := "min", desc := "(II)I" } : Jvm.MethodName) jdk_29_method_69_code (2 : Nat) (Option.some Jvm.ClassFile.FieldType.int)).before args0 about1 = true := code_word (m := ⟨14, 1⟩) (meth := k14m1) (c := k14c1) (by decide +kernel) rfl rfl rfl (by decide +kernel)
set_option maxRecDepth 65536 in
theorem w_c27 : (Jvm.Cond.code ({ cls := "java/lang/String", name := "<init>", desc := "([BB)V" } : Jvm.MethodName) jdk_42_method_151_code (3 : Nat) (Option.none : Option Jvm.ClassFile.FieldType)).before args0 about1 = true := code_word (m := ⟨7, 9⟩) (meth := k7m9) (c := k7c9) (by decide +kernel) rfl rfl rfl (by decide +kernel)
def codes1 : List Jvm.Cond := [Jvm.Cond.code x code maxLocals ret, Jvm.Cond.code ({ cls := "com/example/nudge_over_socket/nudgeoversocket/protocol/ChannelNamesIsOpenToPinLaw", name := "ch", desc := "(II)C" } : Jvm.MethodName) method_3_code (2 : Nat) (Option.some Jvm.ClassFile.FieldType.char), Jvm.Cond.code ({ cls := "com/example/nudge_over_socket/nudgeoversocket/protocol/ChannelNamesIsOpenToPinLaw", name := "take", desc := "([CI)Ljava/lang/String;" } : Jvm.MethodName) method_4_code (2 : Nat) (Option.some (Jvm.ClassFile.FieldType.object "java/lang/String")), Jvm.Cond.code ({ cls := "java/lang/String", name := "<init>", desc := "([C)V" } : Jvm.MethodName) jdk_42_method_3_code (2 : Nat) (Option.none : Option Jvm.ClassFile.FieldType), Jvm.Cond.code ({ cls := "java/lang/String", name := "<init>", desc := "([CIILjava/lang/Void;)V" } : Jvm.MethodName) jdk_42_method_149_code (6 : Nat) (Option.none : Option Jvm.ClassFile.FieldType), Jvm.Cond.code ({ cls := "java/lang/Object", name := "<init>", desc := "()V" } : Jvm.MethodName) object_method_1_code (1 : Nat) (Option.none : Option Jvm.ClassFile.FieldType), Jvm.Cond.code ({ cls := "com/example/nudge_over_socket/nudgeoversocket/protocol/ChannelNames", name := "isOpenTo", desc := "(Ljava/lang/String;Ljava/lang/String;)Z" } : Jvm.MethodName) prog_17_method_4_code (2 : Nat) (Option.some Jvm.ClassFile.FieldType.boolean), Jvm.Cond.code ({ cls := "java/lang/String", name := "startsWith", desc := "(Ljava/lang/String;)Z" } : Jvm.MethodName) jdk_42_method_76_code (2 : Nat) (Option.some Jvm.ClassFile.FieldType.boolean), Jvm.Cond.code ({ cls := "java/lang/String", name := "startsWith", desc := "(Ljava/lang/String;I)Z" } : Jvm.MethodName) jdk_42_method_75_code (8 : Nat) (Option.some Jvm.ClassFile.FieldType.boolean), Jvm.Cond.code ({ cls := "java/lang/String", name := "length", desc := "()I" } : Jvm.MethodName) jdk_42_method_54_code (1 : Nat) (Option.some Jvm.ClassFile.FieldType.int), Jvm.Cond.code ({ cls := "java/lang/String", name := "coder", desc := "()B" } : Jvm.MethodName) jdk_42_method_152_code (1 : Nat) (Option.some Jvm.ClassFile.FieldType.byte), Jvm.Cond.code ({ cls := "java/lang/StringUTF16", name := "compress", desc := "([CII)[B" } : Jvm.MethodName) jdk_52_method_16_code (6 : Nat) (Option.some (Jvm.ClassFile.FieldType.array Jvm.ClassFile.FieldType.byte)), Jvm.Cond.code ({ cls := "java/lang/StringUTF16", name := "compress", desc := "([CI[BII)I" } : Jvm.MethodName) jdk_52_method_21_code (7 : Nat) (Option.some Jvm.ClassFile.FieldType.int), Jvm.Cond.code ({ cls := "java/lang/StringUTF16", name := "coderFromArrayLen", desc := "([BI)B" } : Jvm.MethodName) jdk_52_method_15_code (2 : Nat) (Option.some Jvm.ClassFile.FieldType.byte), Jvm.Cond.code ({ cls := "jdk/internal/util/ArraysSupport", name := "mismatch", desc := "([BI[BII)I" } : Jvm.MethodName) jdk_48_method_14_code (8 : Nat) (Option.some Jvm.ClassFile.FieldType.int), Jvm.Cond.code ({ cls := "java/lang/String", name := "substring", desc := "(I)Ljava/lang/String;" } : Jvm.MethodName) jdk_42_method_91_code (2 : Nat) (Option.some (Jvm.ClassFile.FieldType.object "java/lang/String")), Jvm.Cond.code ({ cls := "java/lang/String", name := "substring", desc := "(II)Ljava/lang/String;" } : Jvm.MethodName) jdk_42_method_92_code (5 : Nat) (Option.some (Jvm.ClassFile.FieldType.object "java/lang/String")), Jvm.Cond.code ({ cls := "java/lang/String", name := "checkBoundsBeginEnd", desc := "(III)V" } : Jvm.MethodName) jdk_42_method_158_code (3 : Nat) (Option.none : Option Jvm.ClassFile.FieldType), Jvm.Cond.code ({ cls := "jdk/internal/util/Preconditions", name := "checkFromToIndex", desc := "(IIILjava/util/function/BiFunction;)I" } : Jvm.MethodName) jdk_41_method_12_code (4 : Nat) (Option.some Jvm.ClassFile.FieldType.int), Jvm.Cond.code ({ cls := "java/lang/String", name := "isLatin1", desc := "()Z" } : Jvm.MethodName) jdk_42_method_154_code (1 : Nat) (Option.some Jvm.ClassFile.FieldType.boolean), Jvm.Cond.code ({ cls := "java/lang/StringLatin1", name := "newString", desc := "([BII)Ljava/lang/String;" } : Jvm.MethodName) jdk_43_method_47_code (3 : Nat) (Option.some (Jvm.ClassFile.FieldType.object "java/lang/String")), Jvm.Cond.code ({ cls := "java/lang/String", name := "equals", desc := "(Ljava/lang/Object;)Z" } : Jvm.MethodName) jdk_42_method_66_code (3 : Nat) (Option.some Jvm.ClassFile.FieldType.boolean), Jvm.Cond.code ({ cls := "java/lang/StringLatin1", name := "equals", desc := "([B[B)Z" } : Jvm.MethodName) jdk_43_method_13_code (3 : Nat) (Option.some Jvm.ClassFile.FieldType.boolean), Jvm.Cond.code ({ cls := "java/util/Arrays", name := "copyOfRange", desc := "([BII)[B" } : Jvm.MethodName) jdk_65_method_132_code (3 : Nat) (Option.some (Jvm.ClassFile.FieldType.array Jvm.ClassFile.FieldType.byte)), Jvm.Cond.code ({ cls := "java/util/Arrays", name := "copyOfRangeByte", desc := "([BII)[B" } : Jvm.MethodName) jdk_65_method_133_code (5 : Nat) (Option.some (Jvm.ClassFile.FieldType.array Jvm.ClassFile.FieldType.byte)), Jvm.Cond.code ({ cls := "java/util/Arrays", name := "checkLength", desc := "(II)V" } : Jvm.MethodName) jdk_65_method_131_code (2 : Nat) (Option.none : Option Jvm.ClassFile.FieldType), Jvm.Cond.code ({ cls := "java/lang/Math", name := "min", desc := "(II)I" } : Jvm.MethodName) jdk_29_method_69_code (2 : Nat) (Option.some Jvm.ClassFile.FieldType.int), Jvm.Cond.code ({ cls := "java/lang/String", name := "<init>", desc := "([BB)V" } : Jvm.MethodName) jdk_42_method_151_code (3 : Nat) (Option.none : Option Jvm.ClassFile.FieldType)]
set_option maxRecDepth 65536 in
theorem codes_eq : words1.filter isCode = codes1 := rfl
theorem w_codes : ∀ c ∈ words1.filter isCode, c.before args0 about1 = true := by
  rw [codes_eq]
  intro c hc
  simp only [codes1, List.mem_cons, List.not_mem_nil, or_false] at hc
  rcases hc with rfl | rfl | rfl | rfl | rfl | rfl | rfl | rfl | rfl | rfl | rfl | rfl | rfl | rfl | rfl | rfl | rfl | rfl | rfl | rfl | rfl | rfl | rfl | rfl | rfl | rfl | rfl | rfl
  · exact w_c0
  · exact w_c1
  · exact w_c2
  · exact w_c3
  · exact w_c4
  · exact w_c5
  · exact w_c6
  · exact w_c7
  · exact w_c8
  · exact w_c9
  · exact w_c10
  · exact w_c11
  · exact w_c12
  · exact w_c13
  · exact w_c14
  · exact w_c15
  · exact w_c16
  · exact w_c17
  · exact w_c18
  · exact w_c19
  · exact w_c20
  · exact w_c21
  · exact w_c22
  · exact w_c23
  · exact w_c24
  · exact w_c25
  · exact w_c26
  · exact w_c27
set_option maxRecDepth 65536 in
theorem w_t1 : (words1.take 24).all (fun c => isCode c || c.before args0 about1) = true := by decide +kernel
set_option maxRecDepth 65536 in
theorem w_t2 : ((words1.drop 24).take 24).all (fun c => isCode c || c.before args0 about1) = true := by decide +kernel
set_option maxRecDepth 65536 in
theorem w_t3 : (((words1.drop 24).drop 24).take 24).all (fun c => isCode c || c.before args0 about1) = true := by decide +kernel
set_option maxRecDepth 65536 in
theorem w_t4 : ((((words1.drop 24).drop 24).drop 24).take 24).all (fun c => isCode c || c.before args0 about1) = true := by decide +kernel
set_option maxRecDepth 65536 in
theorem w_t5 : (((((words1.drop 24).drop 24).drop 24).drop 24).take 24).all (fun c => isCode c || c.before args0 about1) = true := by decide +kernel
set_option maxRecDepth 65536 in
theorem w_t6 : (((((words1.drop 24).drop 24).drop 24).drop 24).drop 24).all (fun c => isCode c || c.before args0 about1) = true := by decide +kernel
theorem w_tables : (allAtoms (Jvm.Cond.code x code maxLocals ret :: tables_1)).before args0 about1 = true := by
  rw [allAtoms_all]
  show words1.all (fun c => c.before args0 about1) = true
  refine all_split ?_ w_codes
  rw [← List.take_append_drop 24 words1, List.all_append, w_t1, ← List.take_append_drop 24 (words1.drop 24), List.all_append, w_t2, ← List.take_append_drop 24 ((words1.drop 24).drop 24), List.all_append, w_t3, ← List.take_append_drop 24 (((words1.drop 24).drop 24).drop 24), List.all_append, w_t4, ← List.take_append_drop 24 ((((words1.drop 24).drop 24).drop 24).drop 24), List.all_append, w_t5, w_t6]
  rfl
set_option maxRecDepth 65536 in
theorem w_rest : rest_1_c.before args0 about1 = true := by decide +kernel
set_option maxRecDepth 65536 in
theorem w_case : (Jvm.Cond.and given_1 narrow_1).before args0 about1 = true := by decide +kernel
set_option maxRecDepth 65536 in
theorem w_consts : constsHeld consts_1 about1 := Jvm.Lit.constsHeldB_iff.mp (by decide +kernel)
theorem w_applies : (headSpec (Jvm.Cond.code x code maxLocals ret :: tables_1) room_1).applies x e0.platform about1 = true :=
  (Spec.applies_iff w_frames).mpr ⟨w_running, w_runnable, w_alone, w_named, w_hears, w_ripe, w_room, w_tables⟩
theorem atStart : AtStart classFile x code maxLocals ret World_1 tables_1 room_1 Calls_1 rest_1 Pre_1 launch0 p0 e0 about1 theMethod args0 below0 :=
  ⟨lists_1, trivial, launch0.admits_env _ _ _, launch0.least_env, fairChoices_fair.cas, fairChoices_fair.clock, w_frames, w_args, w_heap, w_applies, ⟨w_consts, trivial⟩, w_rest, w_case⟩
end start1
theorem witness_1 : WitnessClaimed_1 := ⟨start1.p0, start1.e0, start1.about1, start1.theMethod, start1.args0, start1.below0, start1.atStart⟩
end Jvm.Pilot.@@N@@
