import JvmDerived
import JvmDerived.Pilot.@@N@@Statement
import JvmDerived.Pilot.@@N@@Code
set_option linter.unusedVariables false
set_option linter.unusedSimpArgs false
namespace Jvm.RoadKit
open Sem ClassFile Op Lib Jvm.Stand Jvm.Free Jvm.LawKit
section Own
variable {p : Program} {l : Launch} {e : Env} {R : Room} {s : State} {m : MethodId} {args : Array Value} {below : List Frame} {meth : Method} {c : Code} {T : State} {locs : List Loc} {cells slots : Nat} {Z : State} {a0 : Array Value} {h h' h2 : Heap}
/-- what is left to show of a walk that stands at S -/
def OEnds (p : Program) (e : Env) (below : List Frame) (s : State) (K N : Nat) (Qf : Option Value → Heap → List Loc → Prop) (S : State) : Prop :=
  ∃ s₂ o, Steps p.tables e below S s₂ ∧ s₂.status = .running ∧ Ended s₂ below o ∧ ∃ v L, o = .returned v ∧ Qf v s₂.heap L ∧ FrameEnd s o s₂ L K N
variable {K N : Nat} {Qf : Option Value → Heap → List Loc → Prop}
theorem OEnds.st {S S' : State} (k : ∀ t, Steps p.tables e below S' t → Steps p.tables e below S t) (h : OEnds p e below s K N Qf S') : OEnds p e below s K N Qf S := by
  obtain ⟨s2, o, h1, r⟩ := h
  exact ⟨s2, o, k _ h1, r⟩
theorem OEnds.cast {g g' : JFrame} (q : g = g') (k : OEnds p e below s K N Qf (T.setTop g')) : OEnds p e below s K N Qf (T.setTop g) := q ▸ k
theorem OEnds.ret (X : Stand p l e R s m args below meth c T locs cells slots) (hx : p.tables.exec = Jvm.exec) {pc : Nat} {Ls : Array Slot} {w : Value} {t : FieldType} {i : Instr} {rest : List Value} (hret : meth.sig.returnType = some t) (hlk : meth.locks = false) (hn : narrow t w = w)
    (hi : (i = .ireturn ∧ (t = .int ∨ t = .boolean ∨ t = .byte ∨ t = .char ∨ t = .short) ∧ ∃ z, w = .int z) ∨ (i = .lreturn ∧ t = .long ∧ ∃ z, w = .long z) ∨ (i = .dreturn ∧ t = .double ∧ ∃ z, w = .double z) ∨ (i = .freturn ∧ t = .float ∧ ∃ z, w = .float z) ∨ (i = .areturn ∧ t.isReference = true ∧ w.isRef = true))
    (hd : decode c.code pc = .ok (i, 1)) (hc : cells ≤ K) (hs : slots ≤ N) (q : Qf (some w) T.heap locs) : OEnds p e below s K N Qf (T.setTop (mkF m pc Ls (w :: rest))) := by
  obtain ⟨fs, hr, hrun, hended, hW, hsame⟩ := X.leave (v := some w) (fun h => by rw [hret] at h; cases h) hlk
  exact ⟨_, _, retOut X hx hret hn hi hd hr, hrun, hended, _, _, rfl, q, ⟨_, rfl⟩, hW, hsame.mono hc hs⟩
theorem OEnds.retV (X : Stand p l e R s m args below meth c T locs cells slots) (hx : p.tables.exec = Jvm.exec) {pc : Nat} {Ls : Array Slot} (hret : meth.sig.returnType = none) (hlk : meth.locks = false)
    (hd : decode c.code pc = .ok (.return_, 1)) (hc : cells ≤ K) (hs : slots ≤ N) (q : Qf none T.heap locs) : OEnds p e below s K N Qf (T.setTop (mkF m pc Ls [])) := by
  obtain ⟨fs, hr, hrun, hended, hW, hsame⟩ := X.leave (v := none) (fun _ => rfl) hlk
  exact ⟨_, _, X.returnOut hx hret hd hr, hrun, hended, _, _, rfl, q, ⟨_, rfl⟩, hW, hsame.mono hc hs⟩
/-- a contract -/
def Con (l : Launch) (Z : State) (y : MethodName) (bytes : ByteArray) (maxL : Nat) (ret : Option FieldType) (ws : List Cond) (rm : Room) (as' : Array Value) (h0 : Heap) (Q : Option Value → Heap → List Loc → Prop) : Prop :=
  MetFree l y (head1 (Cond.code y bytes maxL ret :: ws) rm) (fun a U => a = as' ∧ Z.Warmed39 U.vm ∧ U.heap = h0) (fun _ _ _ _ _ => True) (fun _ U o U' => ∃ v L, o = .returned v ∧ Q v U'.heap L ∧ FrameEnd U o U' L rm.cells rm.slots)
variable {y : MethodName} {bytes : ByteArray} {maxL : Nat} {ret : Option FieldType} {ws : List Cond} {rm : Room} {as' : Array Value} {h0 : Heap} {Q : Option Value → Heap → List Loc → Prop}
theorem Con.walk (hpl : plainFor y = true) (body : ∀ (p : Program) (e : Env) (s : State) (m : MethodId) (below : List Frame) (meth : Method) (c : Code) (T : State), Stand p l e rm s m as' below meth c T [] 0 0 → p.tables.exec = Jvm.exec → Z.Warmed39 s.vm → c.code = bytes → c.maxLocals = maxL →
      s.vm.findClass y.cls = some m.cls → meth.name = y.name → meth.sig.returnType = ret → meth.locks = false → T.heap = h0 → OEnds p e below s rm.cells rm.slots Q (T.setTop (entryFrame m as' maxL))) : Con l Z y bytes maxL ret ws rm as' h0 Q := by
  refine MetFree.of_bodySF hpl hisR ?_
  intro p e s m args below meth c s₁ Bd hml0 hP hK
  obtain ⟨rfl, hZ, hh⟩ := hP
  exact body p e s m below meth c s₁ (Stand.of_body Bd) Bd.exec hZ Bd.bytes hml0 (findClass_of_methodNamed Bd.named) (name_of_methodNamed Bd.named Bd.method).1 Bd.returns Bd.notSynchronized (by rw [← hh, Bd.state]; rfl)
/-- who pays a call, in the one form of this text -/
def SB (l : Launch) (R : Room) (p : Program) (e : Env) (below : List Frame) (s : State) (args : Array Value) (y : MethodName) (len W : Nat) (as' : Array Value) (h : Heap) (Q : Option Value → Heap → List Loc → Prop) (kc ks : Nat) : Prop :=
  Back l R p e below s args y len W (fun A a => a = as' ∧ A.U.heap = h ∧ A.cells + kc ≤ R.cells ∧ A.slots + ks ≤ R.slots) (fun A _ v B => ∃ L, Q v B.U.heap L ∧ B.locs = A.locs ++ L ∧ B.cells = A.cells + kc ∧ B.slots = A.slots + ks)
theorem Con.sb {len W : Nat} (hM : Con l Z y bytes maxL ret [] rm as' h Q) (hZ : Z.Warmed39 s.vm) (wc : (Cond.code y bytes maxL ret).before a0 Z = true) (wz : (Cond.initialized y.cls).before a0 Z = true) (hf : rm.frames + 1 ≤ R.frames) (hl : W + (maxL + 11) + rm.locals ≤ R.locals) :
    SB l R p e below s args y len W as' h Q rm.cells rm.slots := backOf hM hZ wc wz hf hl
theorem SB.of {len W kc ks : Nat} (hB : Back l R p e below s args y len W (fun A a => a = as' ∧ A.U.heap = h ∧ A.cells + kc ≤ R.cells ∧ A.slots + ks ≤ R.slots) (fun A _ v B => ∃ L, Q v B.U.heap L ∧ B.locs = A.locs ++ L ∧ B.cells = A.cells + kc ∧ B.slots = A.slots + ks)) : SB l R p e below s args y len W as' h Q kc ks := hB
theorem SB.mono {len W kc ks : Nat} {Q' : Option Value → Heap → List Loc → Prop} (hB : SB l R p e below s args y len W as' h Q kc ks) (f : ∀ v h' L, Q v h' L → Q' v h' L) : SB l R p e below s args y len W as' h Q' kc ks :=
  Back.mono hB (fun _ _ q => q) (fun _ _ _ _ _ ⟨L, q, r⟩ => ⟨L, f _ _ _ q, r⟩)
theorem callC (X : Stand p l e R s m args below meth c T locs cells slots) (hx : p.tables.exec = Jvm.exec) (hZ : Z.Warmed39 s.vm) {own : String} {index : Nat} {y : MethodName} {bytes : ByteArray} {maxL : Nat} {ret : Option FieldType}
    (hown : s.vm.findClass own = some m.cls) (w1 : (Cond.methodLink own index y).before a0 Z = true) (w2 : (Cond.static y).before a0 Z = true) (w3 : (Cond.initialized y.cls).before a0 Z = true)
    (w4 : (Cond.code y bytes maxL ret).before a0 Z = true) (hy : y.cls ≠ "java/lang/invoke/MethodHandle" ∧ y.cls ≠ "java/lang/invoke/VarHandle") {argsL rest : List Value} {W kc ks : Nat} (hK : SB l R p e below s args y 3 W argsL.toArray h Q kc ks) (eT : T.heap = h)
    {g : JFrame} (hg : g.method = m) (hsize : g.locals.size = c.maxLocals) (hlen : ∀ sig, parseMethodDescriptor y.desc = some sig → argsL.length = sig.parameters.length)
    (hstack : g.stack = argsL.reverse ++ rest) (hW : 2 * g.monitorRoom + (rest.map fun v => v.category).sum ≤ W) (hdg : decode c.code g.pc = .ok (.invokestatic index, 3)) (hc : cells + kc ≤ R.cells) (hs : slots + ks ≤ R.slots) :
    ∃ (v : Option Value) (T' : State) (h' : Heap) (L : List Loc), Stand p l e R s m args below meth c T' (locs ++ L) (cells + kc) (slots + ks) ∧ T'.heap = h' ∧ Q v h' L ∧
      ∀ target, Steps p.tables e below (T'.setTop { g with pc := g.pc + 3, stack := v.toList ++ rest }) target → Steps p.tables e below (T.setTop g) target := by
  obtain ⟨v, vm, ⟨T', L', k', n'⟩, -, X', ⟨L, hQ, l1, y1, z1⟩, st⟩ := Jvm.LawKit.callS X hx hown (mvT hZ w1) (mvT hZ w2) (mvT hZ w3) (mvT hZ w4) hy hK hg hsize hlen hstack hW hdg (fun _ _ => ⟨rfl, eT, hc, hs⟩)
  dsimp only [Pt.U, Pt.locs, Pt.cells, Pt.slots] at X' l1 y1 z1 st hQ
  subst l1 y1 z1
  exact ⟨v, T', _, L, X', rfl, hQ, st⟩
theorem specC (X : Stand p l e R s m args below meth c T locs cells slots) (hx : p.tables.exec = Jvm.exec) (hZ : Z.Warmed39 s.vm) {own : String} {index : Nat} {y : MethodName} {bytes : ByteArray} {maxL : Nat} (hy1 : y.name = "<init>")
    (hown : s.vm.findClass own = some m.cls) (w1 : (Cond.methodLink own index y).before a0 Z = true) (w2 : (Cond.instanceMethod y).before a0 Z = true)
    (w4 : (Cond.code y bytes maxL none).before a0 Z = true) (hy : y.cls ≠ "java/lang/invoke/MethodHandle" ∧ y.cls ≠ "java/lang/invoke/VarHandle") {a : Addr} {argsL rest : List Value} {W kc ks : Nat} (hK : SB l R p e below s args y 3 W (.ref a :: argsL).toArray h Q kc ks) (eT : T.heap = h)
    {g : JFrame} (hg : g.method = m) (hsize : g.locals.size = c.maxLocals) (hlen : ∀ sig, parseMethodDescriptor y.desc = some sig → argsL.length = sig.parameters.length)
    (hstack : g.stack = argsL.reverse ++ .ref a :: rest) (hW : 2 * g.monitorRoom + (rest.map fun v => v.category).sum ≤ W) (hdg : decode c.code g.pc = .ok (.invokespecial index, 3)) (hc : cells + kc ≤ R.cells) (hs : slots + ks ≤ R.slots) :
    ∃ (v : Option Value) (T' : State) (h' : Heap) (L : List Loc), Stand p l e R s m args below meth c T' (locs ++ L) (cells + kc) (slots + ks) ∧ T'.heap = h' ∧ Q v h' L ∧
      ∀ target, Steps p.tables e below (T'.setTop { g with pc := g.pc + 3, stack := v.toList ++ rest }) target → Steps p.tables e below (T.setTop g) target := by
  obtain ⟨v, vm, ⟨T', L', k', n'⟩, -, X', ⟨L, hQ, l1, y1, z1⟩, st⟩ := X.specialBack hx hy1 hown (mvT hZ w1) (mvT hZ w2) (mvT hZ w4) hy hK hg hsize (Steps.refl _) hlen hstack hW hdg (fun _ _ => ⟨rfl, eT, hc, hs⟩)
  dsimp only [Pt.U, Pt.locs, Pt.cells, Pt.slots] at X' l1 y1 z1 st hQ
  subst l1 y1 z1
  exact ⟨v, T', _, L, X', rfl, hQ, fun _ k => st.trans k⟩
theorem virtC (X : Stand p l e R s m args below meth c T locs cells slots) (hx : p.tables.exec = Jvm.exec) (hZ : Z.Warmed39 s.vm) {own C : String} {index : Nat} {y z : MethodName}
    (hown : s.vm.findClass own = some m.cls) (w1 : (Cond.methodLink own index y).before a0 Z = true) (w2 : (Cond.declares y).before a0 Z = true) (hnf : NotFace s y) (w3 : (Cond.selects C y z).before a0 Z = true) (w4 : (Cond.instanceMethod z).before a0 Z = true)
    (hy : y.cls ≠ "java/lang/invoke/MethodHandle" ∧ y.cls ≠ "java/lang/invoke/VarHandle") {a : Addr} {argsL rest : List Value} {W kc ks : Nat} (hK : SB l R p e below s args z 3 W (.ref a :: argsL).toArray h Q kc ks) (eT : T.heap = h) (E : Exa Z h a C)
    {g : JFrame} (hg : g.method = m) (hsize : g.locals.size = c.maxLocals) (hlen : ∀ sig, parseMethodDescriptor y.desc = some sig → argsL.length = sig.parameters.length)
    (hstack : g.stack = argsL.reverse ++ .ref a :: rest) (hW : 2 * g.monitorRoom + (rest.map fun v => v.category).sum ≤ W) (hdg : decode c.code g.pc = .ok (.invokevirtual index, 3)) (hc : cells + kc ≤ R.cells) (hs : slots + ks ≤ R.slots) :
    ∃ (v : Option Value) (T' : State) (h' : Heap) (L : List Loc), Stand p l e R s m args below meth c T' (locs ++ L) (cells + kc) (slots + ks) ∧ T'.heap = h' ∧ Q v h' L ∧
      ∀ target, Steps p.tables e below (T'.setTop { g with pc := g.pc + 3, stack := v.toList ++ rest }) target → Steps p.tables e below (T.setTop g) target := by
  obtain ⟨cq, kq, qa, qb, qc⟩ := isOf hZ eT E
  obtain ⟨v, vm, ⟨T', L', k', n'⟩, -, X', ⟨L, hQ, l1, y1, z1⟩, st⟩ := X.virtualBack hx hown (mvT hZ w1) (mvT hZ w2) hnf (mvT hZ w3) (mvT hZ w4) hy hK qa qc hg hsize (Steps.refl _) hlen hstack hW hdg (fun _ _ => ⟨rfl, eT, hc, hs⟩)
  dsimp only [Pt.U, Pt.locs, Pt.cells, Pt.slots] at X' l1 y1 z1 st hQ
  subst l1 y1 z1
  exact ⟨v, T', _, L, X', rfl, hQ, fun _ k => st.trans k⟩
theorem ne_arv {a b : Addr} {C : String} {k : Nat} {kc : ClassId} {ty : FieldType} {z : Int32} {vs : List Value} {d : Value} (F : Exa Z h a C) (wi : (Cond.instantiable C k).before a0 Z = true) (G : Arv Z h b kc ty z vs d) : a ≠ b := by
  obtain ⟨cl, A, -⟩ := G
  exact ne_arr F wi A
theorem ext_refl (h : Heap) : Ext h h := ⟨Nat.le_refl _, fun _ _ q => q⟩
theorem ext_trans (A : Ext h h') (B : Ext h' h2) : Ext h h2 := ⟨Nat.le_trans A.1 B.1, fun a c q => B.2 a c (A.2 a c q)⟩
theorem ext_keep {ws : List Addr} (O : Ext h h') (Kp : Keep h' h2 ws) (q : ∀ x ∈ ws, h.size ≤ x) : Ext h h2 := ⟨Nat.le_trans O.1 Kp.1, fun a c r => Kp.2.1 a c (O.2 a c r) fun z => absurd (Array.getElem?_eq_some_iff.mp r).1 (Nat.not_lt.mpr (q a z))⟩
theorem ext_wr {a : Addr} {sl : Nat} {v : Value} (O : Ext h h') (W : Wr h' h2 a sl v) (q : h.size ≤ a) : Ext h h2 := ext_keep O (Keep.of_wr W) (allS q all0)
theorem nf_sel {C : String} {y' z y : MethodName} {s : State} {args : Array Value} (w : (Cond.selects C y' z).before args s = true) (hz : z.cls = y.cls) : NotFace s y := fun r0 h0 => by
  obtain ⟨c2, r2, m2, q1, q2, q3, q4, kP, hkP, hkPi⟩ := Cond.selects_spec w
  have e1 := findClass_of_methodNamed h0
  have e2 := findClass_of_methodNamed q3
  rw [hz] at e2
  have e3 : m2.cls = r0.cls := Option.some.inj (e2.symm.trans e1)
  exact ⟨kP, e3 ▸ hkP, hkPi⟩
theorem decl_of {y : MethodName} {s : State} {args : Array Value} {bytes : ByteArray} {maxL : Nat} {ret : Option FieldType} (w : (Cond.instanceMethod y).before args s = true) (wc : (Cond.code y bytes maxL ret).before args s = true) : (Cond.declares y).before args s = true := by
  obtain ⟨mk, methM, hnamed, hmethM, hstM, habM⟩ := Cond.instanceMethod_spec w
  obtain ⟨m2, cM, q1, -, -, -, -, -, -, hsig⟩ := Cond.code_spec hnamed wc
  cases hmethM.symm.trans q1
  simp [Cond.before, Cond.holds, Cond.value, hnamed, hmethM, hstM, hsig]
theorem same_of {y : MethodName} {s : State} {args : Array Value} (nf : NotFace s y) (w : (Cond.instanceMethod y).before args s = true) (hy : y.cls ≠ "java/lang/invoke/MethodHandle" ∧ y.cls ≠ "java/lang/invoke/VarHandle") : (Cond.sameMethod y.cls y.cls y.name y.desc).before args s = true := by
  obtain ⟨mk, methM, hnamed, hmethM, hstM, habM⟩ := Cond.instanceMethod_spec w
  obtain ⟨kr, h1, h2⟩ := nf _ hnamed
  have h3 := State.methodFound?_of_named hnamed hy
  have h4 := findClass_of_methodNamed hnamed
  have h5 : s.methodNamed? ⟨y.cls, y.name, y.desc⟩ = some mk := hnamed
  simp [Cond.before, Cond.holds, Cond.value, h3, h4, h5, h1, h2]
theorem superC (X : Stand p l e R s m args below meth c T locs cells slots) (hx : p.tables.exec = Jvm.exec) (hZ : Z.Warmed39 s.vm) {own C : String} {index : Nat} {y : MethodName} {bytes : ByteArray} {maxL : Nat} {ret : Option FieldType}
    (hown : s.vm.findClass own = some m.cls) (w1 : (Cond.methodLink own index y).before a0 Z = true) (w2 : (Cond.sameMethod y.cls y.cls y.name y.desc).before a0 Z = true) (w3 : (Cond.instanceMethod y).before a0 Z = true) (w4 : (Cond.superclass own y.cls).before a0 Z = true) (w5 : (Cond.code y bytes maxL ret).before a0 Z = true) (hn : y.name ≠ "<init>")
    {a : Addr} {argsL rest : List Value} {W kc ks : Nat} (hK : SB l R p e below s args y 3 W (.ref a :: argsL).toArray h Q kc ks) (eT : T.heap = h) (E : Exa Z h a C)
    {g : JFrame} (hg : g.method = m) (hsize : g.locals.size = c.maxLocals) (hlen : ∀ sig, parseMethodDescriptor y.desc = some sig → argsL.length = sig.parameters.length)
    (hstack : g.stack = argsL.reverse ++ .ref a :: rest) (hW : 2 * g.monitorRoom + (rest.map fun v => v.category).sum ≤ W) (hdg : decode c.code g.pc = .ok (.invokespecial index, 3)) (hc : cells + kc ≤ R.cells) (hs : slots + ks ≤ R.slots) :
    ∃ (v : Option Value) (T' : State) (h' : Heap) (L : List Loc), Stand p l e R s m args below meth c T' (locs ++ L) (cells + kc) (slots + ks) ∧ T'.heap = h' ∧ Q v h' L ∧
      ∀ target, Steps p.tables e below (T'.setTop { g with pc := g.pc + 3, stack := v.toList ++ rest }) target → Steps p.tables e below (T.setTop g) target := by
  obtain ⟨v, vm, ⟨T', L', k', n'⟩, -, X', ⟨L, hQ, l1, y1, z1⟩, st⟩ := superBack X hx hZ hown w1 w2 w3 w4 hn hK eT (Ins.self E) hg hsize w5 hlen hstack hW hdg (fun _ _ => ⟨rfl, eT, hc, hs⟩)
  dsimp only [Pt.U, Pt.locs, Pt.cells, Pt.slots] at X' l1 y1 z1 st hQ
  subst l1 y1 z1
  exact ⟨v, T', _, L, X', rfl, hQ, fun _ k => st.trans k⟩
theorem shl0 (x : Int32) : x <<< ((0 : Int32) &&& 31) = x := by
  apply Int32.toBitVec_inj.mp
  rw [Int32.toBitVec_shiftLeft]
  simp
theorem shr0 (x : Int32) : x >>> ((0 : Int32) &&& 31) = x := by
  apply Int32.toBitVec_inj.mp
  rw [Int32.toBitVec_shiftRight]
  simp
theorem ofn_add (n k : Nat) : Int32.ofNat n + Int32.ofNat k = Int32.ofNat (n + k) := (Int32.ofNat_add n k).symm
theorem ofn_toInt {n : Nat} (h : n < 2 ^ 31) : (Int32.ofNat n).toInt = n := Int32.toInt_ofNat_small h
theorem ofn_clamp {n : Nat} (h : n < 2 ^ 31) : (Int32.ofNat n).toNatClampNeg = n := by simp only [Int32.toNatClampNeg, ofn_toInt h]; rfl
theorem ofn_nneg {n : Nat} (h : n < 2 ^ 31) : ¬ Int32.ofNat n < 0 := by
  rw [Int32.lt_iff_toInt_lt, ofn_toInt h]; show ¬ (n : Int) < 0; omega
theorem ofn_lt {n k : Nat} (hn : n < 2 ^ 31) (hk : k < 2 ^ 31) : Int32.ofNat n < Int32.ofNat k ↔ n < k := by
  rw [Int32.lt_iff_toInt_lt, ofn_toInt hn, ofn_toInt hk]; omega
theorem ofn_sub_le {n k : Nat} (h : n ≤ k) (hk : k < 2 ^ 31) : ¬ (0 : Int32) < Int32.ofNat n - Int32.ofNat k := by
  have h1 := c_isub (Int32.ofNat n) (Int32.ofNat k)
  rw [ofn_toInt (by omega), ofn_toInt hk] at h1
  have h2 := rng32 (Int32.ofNat n - Int32.ofNat k)
  rw [Int32.lt_iff_toInt_lt]
  have : (0 : Int32).toInt = 0 := rfl
  omega
theorem ofn_ne {n k : Nat} (h : n ≠ k) (hn : n < 2 ^ 31) (hk : k < 2 ^ 31) : ¬ Int32.ofNat n = Int32.ofNat k := fun q => h (by have := congrArg Int32.toInt q; rw [ofn_toInt hn, ofn_toInt hk] at this; omega)
theorem sub0 {x : Int32} : x - (0 : Int32) = x := by simp
theorem nar_char {x : Int32} (h : ¬ x < 0 ∧ ¬ (255 : Int32) < x) : nar .char x = x := by
  obtain ⟨h1, h2⟩ := h
  rw [Int32.lt_iff_toInt_lt] at h1 h2
  have e0 : (0 : Int32).toInt = 0 := rfl
  have e1 : (255 : Int32).toInt = 255 := rfl
  have q := c_i2c x
  show x.toUInt32.toUInt16.toUInt32.toInt32 = x
  apply Int32.toInt_inj.mp
  omega
theorem range_getD {us : List Value} {n : Nat} (h : us.length = n) (d : Value) : (List.range n).map (fun i => us.getD i d) = us := by
  subst h
  apply List.ext_getElem
  · simp
  · intro i h1 h2
    simp [List.getD_eq_getElem?_getD, h2]
theorem cp_list {vs us : List Value} {n k : Nat} {d : Value} (hus : us.length = k) (hn : n < 2 ^ 31) (hk : k < 2 ^ 31) :
    vs.take (Int32.ofNat n).toNatClampNeg ++ (List.range (Int32.ofNat k).toNatClampNeg).map (fun i => us.getD ((0 : Int32).toNatClampNeg + i) d) ++ vs.drop ((Int32.ofNat n).toNatClampNeg + (Int32.ofNat k).toNatClampNeg) = vs.take n ++ us ++ vs.drop (n + k) := by
  rw [ofn_clamp hn, ofn_clamp hk]
  have e : (0 : Int32).toNatClampNeg = 0 := rfl
  simp only [e, Nat.zero_add, range_getD hus]
theorem take_range {vs : List Value} {n : Nat} (h : n ≤ vs.length) (d : Value) : (List.range n).map (fun i => vs.getD i d) = vs.take n := by
  apply List.ext_getElem
  · simp [Nat.min_eq_left h]
  · intro i h1 h2
    have h3 : i < n := by simpa using h1
    simp [List.getD_eq_getElem?_getD, show i < vs.length by omega]
theorem cr_list {vs : List Value} {n : Nat} {d d' : Value} (hn : n ≤ vs.length) (h31 : n < 2 ^ 31) :
    (List.replicate n d').take (0 : Int32).toNatClampNeg ++ (List.range (Int32.ofNat n).toNatClampNeg).map (fun i => vs.getD ((0 : Int32).toNatClampNeg + i) d) ++ (List.replicate n d').drop ((0 : Int32).toNatClampNeg + (Int32.ofNat n).toNatClampNeg) = vs.take n := by
  rw [ofn_clamp h31]
  have e : (0 : Int32).toNatClampNeg = 0 := rfl
  simp only [e, Nat.zero_add, take_range hn, List.take_zero, List.nil_append]
  rw [List.drop_eq_nil_of_le (by simp), List.append_nil]
theorem len_cp {vs us : List Value} {n k cN : Nat} (h : vs.length = cN) (hu : us.length = k) (hr : n + k ≤ cN) : (vs.take n ++ us ++ vs.drop (n + k)).length = cN := by
  simp only [List.length_append, List.length_take, List.length_drop, h, hu]; omega
theorem i2c255 {x : Int32} : ¬ (x &&& 255).toUInt32.toUInt16.toUInt32.toInt32 < 0 ∧ ¬ (255 : Int32) < (x &&& 255).toUInt32.toUInt16.toUInt32.toInt32 := by
  rw [i2c_mask]
  have q := c_and x 255 (by decide)
  have e0 : (0 : Int32).toInt = 0 := rfl
  have e1 : (255 : Int32).toInt = 255 := rfl
  rw [Int32.lt_iff_toInt_lt, Int32.lt_iff_toInt_lt]
  omega
end Own
end Jvm.RoadKit
namespace Jvm.RoadKit
open Sem ClassFile Op Lib Jvm.Stand Jvm.Free Jvm.LawKit
section Own2
variable {p : Program} {l : Launch} {e : Env} {R : Room} {s : State} {m : MethodId} {args : Array Value} {below : List Frame} {meth : Method} {c : Code} {T : State} {locs : List Loc} {cells slots : Nat} {Z : State} {a0 : Array Value} {h : Heap}
variable {Q : Option Value → Heap → List Loc → Prop}
end Own2
end Jvm.RoadKit
namespace Jvm.RoadKit
open Sem ClassFile Op Lib Bundle Jvm.Stand Jvm.Free Jvm.LawKit
section OwnH
variable {p : Program} {l : Launch} {e : Env} {R : Room} {s : State} {m : MethodId} {args : Array Value} {below : List Frame} {meth : Method} {c : Code} {T : State} {locs : List Loc} {cells slots : Nat} {Z : State} {a0 : Array Value} {h h' h2 : Heap} {EL : List (String × Nat)} {vm0 vm1 : Vm}
/-- what is left to show of a walk that may intern String constants -/
def OEndsH (p : Program) (e : Env) (below : List Frame) (Z : State) (EL : List (String × Nat)) (s : State) (K N : Nat) (Qf : Option Value → Heap → List Loc → Prop) (S : State) : Prop :=
  ∃ s₂ o, Steps p.tables e below S s₂ ∧ s₂.status = .running ∧ Ended s₂ below o ∧ ∃ v L, o = .returned v ∧ Qf v s₂.heap L ∧ CHr Z EL s.vm s.heap s₂.vm s₂.heap ∧ ReturnedEndW s o s₂ L K N
variable {K N : Nat} {Qf : Option Value → Heap → List Loc → Prop}
theorem OEndsH.st {S S' : State} (k : ∀ t, Steps p.tables e below S' t → Steps p.tables e below S t) (h : OEndsH p e below Z EL s K N Qf S') : OEndsH p e below Z EL s K N Qf S := by
  obtain ⟨s2, o, h1, r⟩ := h
  exact ⟨s2, o, k _ h1, r⟩
theorem OEndsH.cast {g g' : JFrame} (q : g = g') (k : OEndsH p e below Z EL s K N Qf (T.setTop g')) : OEndsH p e below Z EL s K N Qf (T.setTop g) := q ▸ k
theorem OEndsH.ret (X : Stand p l e R (s.setVm vm0) m args below meth c T locs cells slots) (hx : p.tables.exec = Jvm.exec) (hZ : Z.Warmed39 vm0) (hEL : EW Z a0 EL) (eT : T.heap = h) {k0 : Nat} (hS : s.Since vm0 k0) (hk : k0 ≤ h.size) (A : CHr Z EL s.vm s.heap vm0 h)
    {pc : Nat} {Ls : Array Slot} {w : Value} {t : FieldType} {i : Instr} {rest : List Value} (hret : meth.sig.returnType = some t) (hlk : meth.locks = false) (hn : narrow t w = w)
    (hi : (i = .ireturn ∧ (t = .int ∨ t = .boolean ∨ t = .byte ∨ t = .char ∨ t = .short) ∧ ∃ z, w = .int z) ∨ (i = .lreturn ∧ t = .long ∧ ∃ z, w = .long z) ∨ (i = .dreturn ∧ t = .double ∧ ∃ z, w = .double z) ∨ (i = .freturn ∧ t = .float ∧ ∃ z, w = .float z) ∨ (i = .areturn ∧ t.isReference = true ∧ w.isRef = true))
    (hd : decode c.code pc = .ok (i, 1)) (hc : cells ≤ K) (hs : slots ≤ N) (q : Qf (some w) h locs) : OEndsH p e below Z EL s K N Qf (T.setTop (mkF m pc Ls (w :: rest))) := by
  obtain ⟨fs, hr, hrun, hended, hW, hsame⟩ := X.leave (v := some w) (fun h => by rw [hret] at h; cases h) hlk
  subst eT
  obtain ⟨q1, q2, q3⟩ := hS.ended hW hk hsame
  have B := A.trans (CHv.at X hZ hEL A.1)
  exact ⟨_, _, retOut X hx hret hn hi hd hr, hrun, hended, _, _, rfl, q, B, ⟨_, rfl⟩, q1, q2, q3.mono hc hs⟩
theorem OEndsH.retV (X : Stand p l e R (s.setVm vm0) m args below meth c T locs cells slots) (hx : p.tables.exec = Jvm.exec) (hZ : Z.Warmed39 vm0) (hEL : EW Z a0 EL) (eT : T.heap = h) {k0 : Nat} (hS : s.Since vm0 k0) (hk : k0 ≤ h.size) (A : CHr Z EL s.vm s.heap vm0 h)
    {pc : Nat} {Ls : Array Slot} (hret : meth.sig.returnType = none) (hlk : meth.locks = false)
    (hd : decode c.code pc = .ok (.return_, 1)) (hc : cells ≤ K) (hs : slots ≤ N) (q : Qf none h locs) : OEndsH p e below Z EL s K N Qf (T.setTop (mkF m pc Ls [])) := by
  obtain ⟨fs, hr, hrun, hended, hW, hsame⟩ := X.leave (v := none) (fun _ => rfl) hlk
  subst eT
  obtain ⟨q1, q2, q3⟩ := hS.ended hW hk hsame
  have B := A.trans (CHv.at X hZ hEL A.1)
  exact ⟨_, _, X.returnOut hx hret hd hr, hrun, hended, _, _, rfl, q, B, ⟨_, rfl⟩, q1, q2, q3.mono hc hs⟩
/-- a contract whose body may intern; ss: the objects that stand ahead of it and that it writes, none of them a constant's -/
def ConH (l : Launch) (Z : State) (EL : List (String × Nat)) (y : MethodName) (bytes : ByteArray) (maxL : Nat) (ret : Option FieldType) (ws : List Cond) (rm : Room) (as' : Array Value) (h0 : Heap) (ss : List Addr) (Q : Option Value → Heap → List Loc → Prop) : Prop :=
  MetFree l y (head1 (Cond.code y bytes maxL ret :: ws) rm) (fun a U => a = as' ∧ Z.Warmed39 U.vm ∧ U.heap = h0 ∧ CHv Z EL U.vm h0 ∧ ∀ x ∈ ss, Safe Z EL U.vm h0 x) (fun _ _ _ _ _ => True) (fun _ U o U' => ∃ v L, o = .returned v ∧ Q v U'.heap L ∧ CHr Z EL U.vm U.heap U'.vm U'.heap ∧ ReturnedEndW U o U' L rm.cells rm.slots)
variable {y : MethodName} {bytes : ByteArray} {maxL : Nat} {ret : Option FieldType} {ws : List Cond} {rm : Room} {as' : Array Value} {h0 : Heap} {ss : List Addr} {Q : Option Value → Heap → List Loc → Prop}
theorem ConH.walk (hpl : plainFor y = true) (body : ∀ (p : Program) (e : Env) (s : State) (vm0 : Vm) (k0 : Nat) (m : MethodId) (below : List Frame) (meth : Method) (c : Code) (T : State), Stand p l e rm (s.setVm vm0) m as' below meth c T [] 0 0 → s.Since vm0 k0 → k0 ≤ h0.size → p.tables.exec = Jvm.exec → Z.Warmed39 vm0 → c.code = bytes → c.maxLocals = maxL →
      vm0.findClass y.cls = some m.cls → meth.name = y.name → meth.sig.returnType = ret → meth.locks = false → T.heap = h0 → CHr Z EL s.vm s.heap vm0 h0 → (∀ x ∈ ss, Safe Z EL vm0 h0 x) → OEndsH p e below Z EL s rm.cells rm.slots Q (T.setTop (entryFrame m as' maxL))) : ConH l Z EL y bytes maxL ret ws rm as' h0 ss Q := by
  refine MetFree.of_bodySF hpl hisR ?_
  intro p e s m args below meth c s₁ Bd hml0 hP hK
  obtain ⟨rfl, hZ, hh, hC, hs⟩ := hP
  have e1 : s₁.heap = h0 := by rw [← hh, Bd.state]; rfl
  exact body p e s s.vm 0 m below meth c s₁ (Stand.of_body Bd) ((State.WarmedH.refl s).since 0) (Nat.zero_le _) Bd.exec hZ Bd.bytes hml0 (findClass_of_methodNamed Bd.named) (name_of_methodNamed Bd.named Bd.method).1 Bd.returns Bd.notSynchronized e1 (by rw [hh]; exact CHr.refl hC) hs
/-- who pays a call that may intern -/
def SBH (l : Launch) (Z : State) (EL : List (String × Nat)) (R : Room) (p : Program) (e : Env) (below : List Frame) (s : State) (vm0 : Vm) (args : Array Value) (y : MethodName) (len W : Nat) (as' : Array Value) (h : Heap) (Q : Option Value → Heap → List Loc → Prop) (kc ks : Nat) : Prop :=
  BackS l R p e below (s.setVm vm0) args y len W (fun A a => a = as' ∧ A.U.heap = h ∧ A.cells + kc ≤ R.cells ∧ A.slots + ks ≤ R.slots) (fun A _ v B => ∃ L, Q v B.U.heap L ∧ B.locs = A.locs ++ L ∧ B.cells = A.cells + kc ∧ B.slots = A.slots + ks ∧ CHr Z EL vm0 h B.U.vm B.U.heap)
theorem ConH.sb {len W : Nat} (hM : ConH l Z EL y bytes maxL ret [] rm as' h ss Q) (hZ : Z.Warmed39 vm0) (wc : (Cond.code y bytes maxL ret).before a0 Z = true) (wz : (Cond.initialized y.cls).before a0 Z = true) (hf : rm.frames + 1 ≤ R.frames) (hl : W + (maxL + 11) + rm.locals ≤ R.locals) (hEL : EW Z a0 EL) (H : CHv Z EL vm0 h) (hss : ∀ x ∈ ss, x < h.size ∧ Safe Z EL vm0 h x) :
    SBH l Z EL R p e below s vm0 args y len W as' h Q rm.cells rm.slots :=
  BackS.of_freeW (bytes := bytes) (maxL := maxL) (ret := ret) (E := fun _ first o t L k n => k = rm.cells ∧ n = rm.slots ∧ (∃ v, o = .returned v ∧ Q v t.heap L) ∧ CHr Z EL first.vm first.heap t.vm t.heap) hM hf hl
    (fun m meth c A a Y hp => have hU : Z.Warmed39 A.U.vm := wtrans (s := s.setVm vm0) hZ Y.warmed
      ⟨by show (Cond.and _ .tt).before a A.U = true; rw [Cond.before_and, mv hU wc]; rfl, mv hU wc, mv hU wz, hp.2.2.1, hp.2.2.2⟩)
    (fun m meth c A a g mk Y hp => ⟨hp.1, wtrans (s := s.setVm vm0) hZ Y.warmed, hp.2.1, (CHv.at Y hZ hEL H).1, fun x hx => (CHv.at Y hZ hEL H).safe (hss x hx).1 (hss x hx).2⟩) (fun _ _ _ _ _ _ _ _ _ => trivial)
    (fun _ _ _ _ ⟨v, L, h1, h2, h3, h4⟩ => ⟨L, _, _, h4, rfl, rfl, ⟨v, h1, h2⟩, h3⟩)
    (fun m meth c A a g mk v t L k n Y hp _ _ ⟨e1, e2, ⟨v', e3, e4⟩, e5⟩ => by
      cases e3; subst e1 e2
      refine ⟨L, e4, rfl, rfl, rfl, (CHv.at Y hZ hEL H).trans ?_⟩
      rw [← hp.2.1]; exact e5)
theorem specH (X : Stand p l e R (s.setVm vm0) m args below meth c T locs cells slots) (hx : p.tables.exec = Jvm.exec) (hZ : Z.Warmed39 vm0) {own : String} {index : Nat} {y : MethodName} {bytes : ByteArray} {maxL : Nat} (hy1 : y.name = "<init>")
    (hown : vm0.findClass own = some m.cls) (w1 : (Cond.methodLink own index y).before a0 Z = true) (w2 : (Cond.instanceMethod y).before a0 Z = true)
    (w4 : (Cond.code y bytes maxL none).before a0 Z = true) (hy : y.cls ≠ "java/lang/invoke/MethodHandle" ∧ y.cls ≠ "java/lang/invoke/VarHandle") {a : Addr} {argsL rest : List Value} {W kc ks : Nat} (hK : SBH l Z EL R p e below s vm0 args y 3 W (.ref a :: argsL).toArray h Q kc ks) (eT : T.heap = h) {k0 : Nat} (hS : s.Since vm0 k0) (hk : k0 ≤ h.size)
    {g : JFrame} (hg : g.method = m) (hsize : g.locals.size = c.maxLocals) (hlen : ∀ sig, parseMethodDescriptor y.desc = some sig → argsL.length = sig.parameters.length)
    (hstack : g.stack = argsL.reverse ++ .ref a :: rest) (hW : 2 * g.monitorRoom + (rest.map fun v => v.category).sum ≤ W) (hdg : decode c.code g.pc = .ok (.invokespecial index, 3)) (hc : cells + kc ≤ R.cells) (hs : slots + ks ≤ R.slots) :
    ∃ (v : Option Value) (T' : State) (h' : Heap) (L : List Loc) (vm1 : Vm) (k1 : Nat), Stand p l e R (s.setVm vm1) m args below meth c T' (locs ++ L) (cells + kc) (slots + ks) ∧ T'.heap = h' ∧ Q v h' L ∧ s.Since vm1 k1 ∧ k1 ≤ h'.size ∧ Z.Warmed39 vm1 ∧ vm1.findClass own = some m.cls ∧ CHr Z EL vm0 h vm1 h' ∧
      ∀ target, Steps p.tables e below (T'.setTop { g with pc := g.pc + 3, stack := v.toList ++ rest }) target → Steps p.tables e below (T.setTop g) target := by
  obtain ⟨v, vm, ⟨T', L', k', n'⟩, -, X', hS', hgr, ⟨L, hQ, l1, y1, z1, A⟩, st⟩ := X.specialBackS hx hy1 hown (mvT (s := s.setVm vm0) hZ w1) (mvT (s := s.setVm vm0) hZ w2) (mvT (s := s.setVm vm0) hZ w4) hy hK hg hsize (Steps.refl _) hlen hstack hW hdg (fun _ _ => ⟨rfl, eT, hc, hs⟩)
  dsimp only [Pt.U, Pt.locs, Pt.cells, Pt.slots] at X' l1 y1 z1 st hQ hS' hgr A
  subst l1 y1 z1 eT
  exact ⟨v, T', _, L, T'.vm, _, X', rfl, hQ, hS.trans hS' (Nat.le_trans hk hgr), Nat.le_refl _, State.Warmed39.trans (t := s.setVm vm0) hZ hS'.1, by rw [hS'.1.alike.findClass]; exact hown, A, fun _ k => st.trans k⟩
theorem virtH (X : Stand p l e R (s.setVm vm0) m args below meth c T locs cells slots) (hx : p.tables.exec = Jvm.exec) (hZ : Z.Warmed39 vm0) {own C : String} {index : Nat} {y z : MethodName}
    (hown : vm0.findClass own = some m.cls) (w1 : (Cond.methodLink own index y).before a0 Z = true) (w2 : (Cond.declares y).before a0 Z = true) (hnf : NotFace (s.setVm vm0) y) (w3 : (Cond.selects C y z).before a0 Z = true) (w4 : (Cond.instanceMethod z).before a0 Z = true)
    (hy : y.cls ≠ "java/lang/invoke/MethodHandle" ∧ y.cls ≠ "java/lang/invoke/VarHandle") {a : Addr} {argsL rest : List Value} {W kc ks : Nat} (hK : SBH l Z EL R p e below s vm0 args z 3 W (.ref a :: argsL).toArray h Q kc ks) (eT : T.heap = h) {k0 : Nat} (hS : s.Since vm0 k0) (hk : k0 ≤ h.size) (E : Exa Z h a C)
    {g : JFrame} (hg : g.method = m) (hsize : g.locals.size = c.maxLocals) (hlen : ∀ sig, parseMethodDescriptor y.desc = some sig → argsL.length = sig.parameters.length)
    (hstack : g.stack = argsL.reverse ++ .ref a :: rest) (hW : 2 * g.monitorRoom + (rest.map fun v => v.category).sum ≤ W) (hdg : decode c.code g.pc = .ok (.invokevirtual index, 3)) (hc : cells + kc ≤ R.cells) (hs : slots + ks ≤ R.slots) :
    ∃ (v : Option Value) (T' : State) (h' : Heap) (L : List Loc) (vm1 : Vm) (k1 : Nat), Stand p l e R (s.setVm vm1) m args below meth c T' (locs ++ L) (cells + kc) (slots + ks) ∧ T'.heap = h' ∧ Q v h' L ∧ s.Since vm1 k1 ∧ k1 ≤ h'.size ∧ Z.Warmed39 vm1 ∧ vm1.findClass own = some m.cls ∧ CHr Z EL vm0 h vm1 h' ∧
      ∀ target, Steps p.tables e below (T'.setTop { g with pc := g.pc + 3, stack := v.toList ++ rest }) target → Steps p.tables e below (T.setTop g) target := by
  obtain ⟨cq, kq, qa, qb, qc⟩ := isOf (s := s.setVm vm0) hZ eT E
  obtain ⟨v, vm, ⟨T', L', k', n'⟩, -, X', hS', hgr, ⟨L, hQ, l1, y1, z1, A⟩, st⟩ := X.virtualBackS hx hown (mvT (s := s.setVm vm0) hZ w1) (mvT (s := s.setVm vm0) hZ w2) hnf (mvT (s := s.setVm vm0) hZ w3) (mvT (s := s.setVm vm0) hZ w4) hy hK qa qc hg hsize (Steps.refl _) hlen hstack hW hdg (fun _ _ => ⟨rfl, eT, hc, hs⟩)
  dsimp only [Pt.U, Pt.locs, Pt.cells, Pt.slots] at X' l1 y1 z1 st hQ hS' hgr A
  subst l1 y1 z1 eT
  exact ⟨v, T', _, L, T'.vm, _, X', rfl, hQ, hS.trans hS' (Nat.le_trans hk hgr), Nat.le_refl _, State.Warmed39.trans (t := s.setVm vm0) hZ hS'.1, by rw [hS'.1.alike.findClass]; exact hown, A, fun _ k => st.trans k⟩
end OwnH
end Jvm.RoadKit
namespace Jvm.RoadKit
open Sem ClassFile Op Lib Jvm.Stand Jvm.Free Jvm.LawKit
section OwnJ
variable {p : Program} {e : Env} {below : List Frame} {P : State → Prop} {S S' : State}
/-- the walk from S comes to a place where P stands (two roads may meet there) -/
def OJ (p : Program) (e : Env) (below : List Frame) (P : State → Prop) (S : State) : Prop := ∃ S', P S' ∧ ∀ t, Steps p.tables e below S' t → Steps p.tables e below S t
theorem OJ.st (k : ∀ t, Steps p.tables e below S' t → Steps p.tables e below S t) (h : OJ p e below P S') : OJ p e below P S := by
  obtain ⟨s2, h1, h2⟩ := h
  exact ⟨s2, h1, fun t q => k t (h2 t q)⟩
theorem OJ.here (h : P S) : OJ p e below P S := ⟨S, h, fun _ q => q⟩
theorem of_rng {x : Int32} {n : Nat} (h : 0 ≤ x.toInt) (h2 : x.toInt < n) (hn : n < 2 ^ 31) : ∃ k : Nat, k < n ∧ x = Int32.ofNat k := by
  refine ⟨x.toInt.toNat, by omega, Int32.toInt_inj.mp ?_⟩
  rw [Int32.toInt_ofNat_small (by omega)]; omega
end OwnJ
end Jvm.RoadKit
/- laws to paste: Road.backV, chr8_lo8, narrow_ch (cut by pick.py; bodies as the Statement names them) -/
namespace Jvm.Pilot.@@N@@
namespace StrChars
open Jvm Sem ClassFile Op Lib Jvm.Stand Jvm.Free.XT Jvm.Free.ALB Jvm.Free.JM Jvm.Free
open Jvm.Lib.Cold (StaticIs)
/-- a char array whose places are chars -/
def Ch (a : Addr) (A : Cell) (U : State) : Prop := Arr .char a A U ∧ Typed .char A
theorem Ch.mv {a : Addr} {A : Cell} {U U' : State} (h : Ch a A U) (hal : U.vm.Alike U'.vm) (hh : U'.heap = U.heap) : Ch a A U' := ⟨h.1.mv hal hh, h.2⟩
theorem Ch.keep {a : Addr} {A : Cell} {U U' : State} (h : Ch a A U) (hal : U.vm.Alike U'.vm) (hk : U'.heap[a]? = some A) : Ch a A U' := ⟨h.1.keep hal hk, h.2⟩
/-- what place i of a char[]'s cell holds -/
def cv (A : Cell) (i : Nat) : Int32 := match A.slots[i]? with | some (.int x) => x | _ => 0
theorem Ch.get {a : Addr} {A : Cell} {U : State} (h : Ch a A U) {i : Nat} (hi : i < A.slots.size) : A.slots[i]? = some (.int (cv A i)) := by
  have e := Array.getElem?_eq_getElem hi
  have f := h.2 i _ e
  unfold cv; rw [e]
  generalize A.slots[i] = v at f
  cases v <;> simp [fits] at f ⊢
/-- the byte that i2b leaves of a char -/
def lo8 (x : Int32) : Int32 := x.toInt8.toInt32
theorem fits_lo8 (y : Int32) : fits .byte (.int (lo8 y)) = true := by
  have h1 := y.toInt8.le_toInt
  have h2 := y.toInt8.toInt_lt
  simp only [lo8, fits, Bool.and_eq_true, decide_eq_true_eq, Int32.le_iff_toInt_le, Int8.toInt_toInt32, show (-128 : Int32).toInt = -128 from by decide, show (127 : Int32).toInt = 127 from by decide]
  omega
/-- A' is A but that each place j of lo .. hi - 1 holds f j -/
def Laid (A A' : Cell) (lo hi : Nat) (f : Nat → Value) : Prop := A'.cls = A.cls ∧ A'.vm = A.vm ∧ A'.slots.size = A.slots.size ∧ ∀ i, A'.slots[i]? = if lo ≤ i ∧ i < hi then some (f i) else A.slots[i]?
theorem Laid.zero (A : Cell) (lo : Nat) (f : Nat → Value) : Laid A A lo (lo + 0) f := ⟨rfl, rfl, rfl, fun i => by rw [if_neg (by omega)]⟩
theorem Laid.step {A Ak : Cell} {lo k : Nat} {f : Nat → Value} {v : Value} (h : Laid A Ak lo k f) (hlo : lo ≤ k) (hk : k < Ak.slots.size) (hv : v = f k) : Laid A (Ak.setSlot k v) lo (k + 1) f := by
  refine ⟨h.1, h.2.1, by simpa [Cell.setSlot] using h.2.2.1, fun i => ?_⟩
  by_cases e : k = i
  · subst e; rw [Cell.slots_setSlot_self v hk, if_pos (by omega), hv]
  · rw [Cell.slots_setSlot_ne v e, h.2.2.2 i]
    by_cases q : lo ≤ i ∧ i < k
    · rw [if_pos q, if_pos (by omega)]
    · rw [if_neg q, if_neg (by omega)]
def U16 : String := "java/lang/StringUTF16"
namespace Cmp5
def yN : MethodName := ⟨"java/lang/StringUTF16", "compress", "([CI[BII)I"⟩
abbrev yB : ByteArray := jdk_52_method_21_code
theorem d0 : decode yB 0 = .ok (.iconst 0, 1) := by decide +kernel
theorem d1 : decode yB 1 = .ok (.istore 5, 2) := by decide +kernel
theorem d3 : decode yB 3 = .ok (.iload 5, 2) := by decide +kernel
theorem d5 : decode yB 5 = .ok (.iload 4, 2) := by decide +kernel
theorem d7 : decode yB 7 = .ok (.if_icmp (.ge) 37, 3) := by decide +kernel
theorem d10 : decode yB 10 = .ok (.aload_n 0, 1) := by decide +kernel
theorem d11 : decode yB 11 = .ok (.iload_n 1, 1) := by decide +kernel
theorem d12 : decode yB 12 = .ok (.caload, 1) := by decide +kernel
theorem d13 : decode yB 13 = .ok (.istore 6, 2) := by decide +kernel
theorem d15 : decode yB 15 = .ok (.iload 6, 2) := by decide +kernel
theorem d17 : decode yB 17 = .ok (.sipush 255, 3) := by decide +kernel
theorem d20 : decode yB 20 = .ok (.if_icmp (.le) 6, 3) := by decide +kernel
theorem d26 : decode yB 26 = .ok (.aload_n 2, 1) := by decide +kernel
theorem d27 : decode yB 27 = .ok (.iload_n 3, 1) := by decide +kernel
theorem d28 : decode yB 28 = .ok (.iload 6, 2) := by decide +kernel
theorem d30 : decode yB 30 = .ok (.i2b, 1) := by decide +kernel
theorem d31 : decode yB 31 = .ok (.bastore, 1) := by decide +kernel
theorem d32 : decode yB 32 = .ok (.iinc 1 1, 3) := by decide +kernel
theorem d35 : decode yB 35 = .ok (.iinc 3 1, 3) := by decide +kernel
theorem d38 : decode yB 38 = .ok (.iinc 5 1, 3) := by decide +kernel
theorem d41 : decode yB 41 = .ok (.goto (-38), 3) := by decide +kernel
theorem d44 : decode yB 44 = .ok (.iload 4, 2) := by decide +kernel
theorem d46 : decode yB 46 = .ok (.ireturn, 1) := by decide +kernel
def site : List Cond := []
def tab : Cond := tabOf yN yB 7 (some .int) site
def P (b : Addr) (A : Cell) (d : Addr) (B : Cell) (o q len : Nat) (args : Array Value) (s : State) : Prop := args = #[.ref b, .int (Int32.ofNat o), .ref d, .int (Int32.ofNat q), .int (Int32.ofNat len)] ∧ Ch b A s ∧ Arr .byte d B s ∧ b ≠ d ∧ o + len ≤ A.slots.size ∧ q + len ≤ B.slots.size ∧ ∀ i, i < len → ¬ 255 < cv A (o + i)
def E (b : Addr) (A : Cell) (d : Addr) (B : Cell) (o q len : Nat) (r : Option Value) (s u : State) : Prop := r = some (.int (Int32.ofNat len)) ∧ ∃ B', Put d B' s u ∧ Laid B B' q (q + len) (fun j => Value.int (lo8 (cv A (o + (j - q)))))
/-- no char of the range above 255: len; the places written hold each char's low byte -/
theorem law (l : Launch) (b : Addr) (A : Cell) (d : Addr) (B : Cell) (o q len : Nat) : Law l yN 5 5 0 0 yB 7 (some .int) site (P b A d B o q len) (E b A d B o q len) (copyLocs d q len) 0 0 := by
  refine Law.of_walk (plainFor_of_name (by decide +kernel)) (by decide +kernel) (by decide +kernel) (by decide) (fun _ _ h => by rw [h.1]; rfl) (fun _ U U' hal hh h => ⟨h.1, h.2.1.mv hal hh, h.2.2.1.mv hal hh, h.2.2.2⟩) (fun r U U' V V' h1 hal h2 h => ⟨h.1, h.2.elim fun B' q => ⟨B', q.1.mv h1 h2, q.2⟩⟩) ?_
  intro p e s m args below meth c s₁ X0 hexec hbytes hml hret hlk hnm hown hh0 W hP
  obtain ⟨rfl, hA, hB, hne, l1, l2, hp⟩ := hP
  have c1 : Steps p.tables e below (s₁.setTop (entryFrame m #[.ref b, .int (Int32.ofNat o), .ref d, .int (Int32.ofNat q), .int (Int32.ofNat len)] 7)) (s₁.setTop (mkF m 0 #[.val (.ref b), .val (.int (Int32.ofNat o)), .val (.ref d), .val (.int (Int32.ofNat q)), .val (.int (Int32.ofNat len)), .unset, .unset] [])) := entry rfl
  have hA0 := hA.1.mv X0.warmed.alike hh0
  have hB0 := hB.mv X0.warmed.alike hh0
  have a31 := hA.1.2.2.2
  have c2 : Steps p.tables e below (s₁.setTop (entryFrame m #[.ref b, .int (Int32.ofNat o), .ref d, .int (Int32.ofNat q), .int (Int32.ofNat len)] 7)) (s₁.setTop (mkF m 3 #[.val (.ref b), .val (.int (Int32.ofNat o)), .val (.ref d), .val (.int (Int32.ofNat q)), .val (.int (Int32.ofNat len)), .val (.int 0), .unset] [])) := c1.trans (by
    refine iconstV X0.here hexec rfl 0 (hb hbytes d0) (by decide) ?_
    refine XS.istore X0.here hexec rfl (hb hbytes d1) rfl rfl ?_
    exact Steps.refl _)
  have loop : ∀ (r i : Nat), i + r = len → ∀ (z : Slot), (z = .unset ∨ ∃ w, z = .val w ∧ w.category = 1) → ∀ (Tl : State) (Bk : Cell), Stand p l e { frames := 0, locals := 0, cells := 0, slots := 0 } s m #[.ref b, .int (Int32.ofNat o), .ref d, .int (Int32.ofNat q), .int (Int32.ofNat len)] below meth c Tl ([] ++ copyLocs d q i) 0 0 → Put d Bk s₁ Tl → Laid B Bk q (q + i) (fun j => Value.int (lo8 (cv A (o + (j - q))))) →
      Steps p.tables e below (s₁.setTop (entryFrame m #[.ref b, .int (Int32.ofNat o), .ref d, .int (Int32.ofNat q), .int (Int32.ofNat len)] 7)) (Tl.setTop (mkF m 3 #[.val (.ref b), .val (.int (Int32.ofNat (o + i))), .val (.ref d), .val (.int (Int32.ofNat (q + i))), .val (.int (Int32.ofNat len)), .val (.int (Int32.ofNat i)), z] [])) → ∃ (T' : State) (B' : Cell) (z' : Slot), Stand p l e { frames := 0, locals := 0, cells := 0, slots := 0 } s m #[.ref b, .int (Int32.ofNat o), .ref d, .int (Int32.ofNat q), .int (Int32.ofNat len)] below meth c T' ([] ++ copyLocs d q len) 0 0 ∧ Put d B' s₁ T' ∧ Laid B B' q (q + len) (fun j => Value.int (lo8 (cv A (o + (j - q))))) ∧
      Steps p.tables e below (s₁.setTop (entryFrame m #[.ref b, .int (Int32.ofNat o), .ref d, .int (Int32.ofNat q), .int (Int32.ofNat len)] 7)) (T'.setTop (mkF m 3 #[.val (.ref b), .val (.int (Int32.ofNat (o + len))), .val (.ref d), .val (.int (Int32.ofNat (q + len))), .val (.int (Int32.ofNat len)), .val (.int (Int32.ofNat len)), z'] [])) := by
    intro r
    induction r with
    | zero =>
      intro i hi z hz Tl Bk Xl pl fl cl
      have hil : i = len := by omega
      rw [hil] at Xl fl cl
      exact ⟨Tl, Bk, z, Xl, pl, fl, cl⟩
    | succ r ih =>
      intro i hi z hz Tl Bk Xl pl fl cl
      have all := X0.warmed.alike.symm.trans Xl.warmed.alike
      have hAl := hA0.keep all (pl.other hne hA0.1)
      have hBk := hB0.like all pl.1 fl.1 fl.2.1 fl.2.2.1
      have hlt : q + i < Bk.slots.size := by rw [fl.2.2.1]; omega
      have c3 : Steps p.tables e below (s₁.setTop (entryFrame m #[.ref b, .int (Int32.ofNat o), .ref d, .int (Int32.ofNat q), .int (Int32.ofNat len)] 7)) (Tl.setTop (mkF m 12 #[.val (.ref b), .val (.int (Int32.ofNat (o + i))), .val (.ref d), .val (.int (Int32.ofNat (q + i))), .val (.int (Int32.ofNat len)), .val (.int (Int32.ofNat i)), z] [.int (Int32.ofNat (o + i)), .ref b])) := cl.trans (by
        refine XS.iload Xl.here hexec rfl (hb hbytes d3) rfl ?_
        refine XS.iload Xl.here hexec rfl (hb hbytes d5) rfl ?_
        refine XS.icmpNo Xl.here hexec rfl (hb hbytes d7) rfl (ii_ge_f (lt32 (by omega) (by omega))) ?_
        refine XS.aloadN Xl.here hexec rfl (hb hbytes d10) rfl rfl ?_
        refine XS.iloadN Xl.here hexec rfl (hb hbytes d11) rfl ?_
        exact Steps.refl _)
      have c4 : Steps p.tables e below (s₁.setTop (entryFrame m #[.ref b, .int (Int32.ofNat o), .ref d, .int (Int32.ofNat q), .int (Int32.ofNat len)] 7)) (Tl.setTop (mkF m 13 #[.val (.ref b), .val (.int (Int32.ofNat (o + i))), .val (.ref d), .val (.int (Int32.ofNat (q + i))), .val (.int (Int32.ofNat len)), .val (.int (Int32.ofNat i)), z] [.int (cv A (o + i))])) := c3.trans (by
        refine Xl.aget hexec hAl rfl (hA.get (i := o + i) (by omega)) rfl rfl (hb hbytes d12) ?_
        exact Steps.refl _)
      have c5 : Steps p.tables e below (s₁.setTop (entryFrame m #[.ref b, .int (Int32.ofNat o), .ref d, .int (Int32.ofNat q), .int (Int32.ofNat len)] 7)) (Tl.setTop (mkF m 15 #[.val (.ref b), .val (.int (Int32.ofNat (o + i))), .val (.ref d), .val (.int (Int32.ofNat (q + i))), .val (.int (Int32.ofNat len)), .val (.int (Int32.ofNat i)), .val (.int (cv A (o + i)))] [])) := c4.trans (by
        refine XS.istoreS Xl.here hexec rfl (hb hbytes d13) rfl rfl hz ?_
        exact Steps.refl _)
      have c6 : Steps p.tables e below (s₁.setTop (entryFrame m #[.ref b, .int (Int32.ofNat o), .ref d, .int (Int32.ofNat q), .int (Int32.ofNat len)] 7)) (Tl.setTop (mkF m 31 #[.val (.ref b), .val (.int (Int32.ofNat (o + i))), .val (.ref d), .val (.int (Int32.ofNat (q + i))), .val (.int (Int32.ofNat len)), .val (.int (Int32.ofNat i)), .val (.int (cv A (o + i)))] [.int (lo8 (cv A (o + i))), .int (Int32.ofNat (q + i)), .ref d])) := c5.trans (by
        refine XS.iload Xl.here hexec rfl (hb hbytes d15) rfl ?_
        refine sipushV Xl.here hexec rfl 255 (hb hbytes d17) (by decide) ?_
        refine XS.icmpYes Xl.here hexec rfl (pc0 := 20) rfl (hb hbytes d20) rfl (ii_le_t (hp i (by omega))) (by decide) rfl ?_
        refine XS.aloadN Xl.here hexec rfl (hb hbytes d26) rfl rfl ?_
        refine XS.iloadN Xl.here hexec rfl (hb hbytes d27) rfl ?_
        refine XS.iload Xl.here hexec rfl (hb hbytes d28) rfl ?_
        refine i2b Xl.here hexec rfl (hb hbytes d30) rfl ?_
        exact Steps.refl _)
      obtain ⟨T7, X7, p7, st7⟩ := Xl.aput hexec hBk rfl hlt rfl (fits_lo8 (cv A (o + i))) (g := (mkF m 31 #[.val (.ref b), .val (.int (Int32.ofNat (o + i))), .val (.ref d), .val (.int (Int32.ofNat (q + i))), .val (.int (Int32.ofNat len)), .val (.int (Int32.ofNat i)), .val (.int (cv A (o + i)))] [.int (lo8 (cv A (o + i))), .int (Int32.ofNat (q + i)), .ref d])) rfl (rest := []) rfl (hb hbytes d31)
      have c8 : Steps p.tables e below (s₁.setTop (entryFrame m #[.ref b, .int (Int32.ofNat o), .ref d, .int (Int32.ofNat q), .int (Int32.ofNat len)] 7)) (T7.setTop (mkF m 32 #[.val (.ref b), .val (.int (Int32.ofNat (o + i))), .val (.ref d), .val (.int (Int32.ofNat (q + i))), .val (.int (Int32.ofNat len)), .val (.int (Int32.ofNat i)), .val (.int (cv A (o + i)))] [])) := c6.trans (st7 _ (Steps.refl _))
      have c9 : Steps p.tables e below (s₁.setTop (entryFrame m #[.ref b, .int (Int32.ofNat o), .ref d, .int (Int32.ofNat q), .int (Int32.ofNat len)] 7)) (T7.setTop (mkF m 3 #[.val (.ref b), .val (.int (Int32.ofNat (o + i) + 1)), .val (.ref d), .val (.int (Int32.ofNat (q + i) + 1)), .val (.int (Int32.ofNat len)), .val (.int (Int32.ofNat i + 1)), .val (.int (cv A (o + i)))] [])) := c8.trans (by
        refine iincV X7.here hexec rfl 1 (hb hbytes d32) (by decide) rfl rfl ?_
        refine iincV X7.here hexec rfl 1 (hb hbytes d35) (by decide) rfl rfl ?_
        refine iincV X7.here hexec rfl 1 (hb hbytes d38) (by decide) rfl rfl ?_
        refine XS.goto X7.here hexec rfl (pc0 := 41) rfl (hb hbytes d41) (by decide) rfl ?_
        exact Steps.refl _)
      have c10 : Steps p.tables e below (s₁.setTop (entryFrame m #[.ref b, .int (Int32.ofNat o), .ref d, .int (Int32.ofNat q), .int (Int32.ofNat len)] 7)) (T7.setTop (mkF m 3 #[.val (.ref b), .val (.int (Int32.ofNat (o + (i + 1)))), .val (.ref d), .val (.int (Int32.ofNat (q + (i + 1)))), .val (.int (Int32.ofNat len)), .val (.int (Int32.ofNat (i + 1))), .val (.int (cv A (o + i)))] [])) := by
        have := c9
        rw [succ32, succ32, succ32] at this
        exact this
      exact ih (i + 1) (by omega) _ (Or.inr ⟨_, rfl, rfl⟩) T7 _ (by rw [copyLocs_step, ← List.append_assoc]; exact X7) (pl.trans p7) (fl.step (by omega) hlt (by simp)) c10
  obtain ⟨T9, B9, z9, X9, p9, f9, g9⟩ := loop len 0 (by omega) .unset (Or.inl rfl) s₁ B (by simpa [copyLocs] using X0) ⟨hB0.1, fun _ _ => rfl, rfl⟩ (Laid.zero _ _ _) c2
  have c11 : Steps p.tables e below (s₁.setTop (entryFrame m #[.ref b, .int (Int32.ofNat o), .ref d, .int (Int32.ofNat q), .int (Int32.ofNat len)] 7)) (T9.setTop (mkF m 46 #[.val (.ref b), .val (.int (Int32.ofNat (o + len))), .val (.ref d), .val (.int (Int32.ofNat (q + len))), .val (.int (Int32.ofNat len)), .val (.int (Int32.ofNat len)), z9] [.int (Int32.ofNat len)])) := g9.trans (by
    refine XS.iload X9.here hexec rfl (hb hbytes d3) rfl ?_
    refine XS.iload X9.here hexec rfl (hb hbytes d5) rfl ?_
    refine XS.icmpYes X9.here hexec rfl (pc0 := 7) rfl (hb hbytes d7) rfl (ii_ge_t (nlt32 (by omega) (Nat.le_refl _))) (by decide) rfl ?_
    refine XS.iload X9.here hexec rfl (hb hbytes d44) rfl ?_
    exact Steps.refl _)
  exact ⟨T9, some (.int (Int32.ofNat len)), _, _, _, X9, by simp, rfl, rfl, (fun h => by cases h), ⟨rfl, B9, p9.from hh0, f9⟩, fun fs hl => c11.trans (X9.ireturnOut hexec hret rfl (Or.inl rfl) (hb hbytes d46) hl)⟩
end Cmp5
namespace Cmp3
def yN : MethodName := ⟨"java/lang/StringUTF16", "compress", "([CII)[B"⟩
abbrev yB : ByteArray := jdk_52_method_16_code
theorem d0 : decode yB 0 = .ok (.iload_n 2, 1) := by decide +kernel
theorem d1 : decode yB 1 = .ok (.newarray .byte, 2) := by decide +kernel
theorem d3 : decode yB 3 = .ok (.astore_n 3, 1) := by decide +kernel
theorem d4 : decode yB 4 = .ok (.aload_n 0, 1) := by decide +kernel
theorem d5 : decode yB 5 = .ok (.iload_n 1, 1) := by decide +kernel
theorem d6 : decode yB 6 = .ok (.aload_n 3, 1) := by decide +kernel
theorem d7 : decode yB 7 = .ok (.iconst 0, 1) := by decide +kernel
theorem d8 : decode yB 8 = .ok (.iload_n 2, 1) := by decide +kernel
theorem d9 : decode yB 9 = .ok (.invokestatic 115, 3) := by decide +kernel
theorem d12 : decode yB 12 = .ok (.istore 4, 2) := by decide +kernel
theorem d14 : decode yB 14 = .ok (.iload 4, 2) := by decide +kernel
theorem d16 : decode yB 16 = .ok (.iload_n 2, 1) := by decide +kernel
theorem d17 : decode yB 17 = .ok (.if_icmp (.eq) 40, 3) := by decide +kernel
theorem d57 : decode yB 57 = .ok (.aload_n 3, 1) := by decide +kernel
theorem d58 : decode yB 58 = .ok (.areturn, 1) := by decide +kernel
def site : List Cond := [.arrayClass .byte, Cmp5.tab] ++ staticW U16 115 Cmp5.yN
def tab : Cond := tabOf yN yB 6 (some (.array .byte)) site
def P (b : Addr) (A : Cell) (o len : Nat) (args : Array Value) (s : State) : Prop := args = #[.ref b, .int (Int32.ofNat o), .int (Int32.ofNat len)] ∧ Ch b A s ∧ o + len ≤ A.slots.size ∧ len ≤ 536870912 ∧ ∀ i, i < len → ¬ 255 < cv A (o + i)
def E (b : Addr) (A : Cell) (o len : Nat) (r : Option Value) (s u : State) : Prop := NewArr .byte "[B" len (fun j => .int (lo8 (cv A (o + j)))) r s u ∧ u.heap.size = s.heap.size + 1
/-- no char of the range above 255: a new byte[] of their low bytes -/
theorem law (l : Launch) (b : Addr) (A : Cell) (o len : Nat) : Law l yN 3 3 1 18 yB 6 (some (.array .byte)) site (P b A o len) (E b A o len) [] 1 len := by
  refine Law.of_walk (plainFor_of_name (by decide +kernel)) (by decide +kernel) (by decide +kernel) (by decide) (fun _ _ h => by rw [h.1]; rfl) (fun _ U U' hal hh h => ⟨h.1, h.2.1.mv hal hh, h.2.2⟩) (fun r U U' V V' h1 hal h2 h => ⟨NewArr.mv r U U' V V' h1 hal h2 h.1, by rw [h1, h2]; exact h.2⟩) ?_
  intro p e s m args below meth c s₁ X0 hexec hbytes hml hret hlk hnm hown hh0 W hP
  obtain ⟨rfl, hA, l1, l2, hp⟩ := hP
  have a31 := hA.1.2.2.2
  have c1 : Steps p.tables e below (s₁.setTop (entryFrame m #[.ref b, .int (Int32.ofNat o), .int (Int32.ofNat len)] 6)) (s₁.setTop (mkF m 0 #[.val (.ref b), .val (.int (Int32.ofNat o)), .val (.int (Int32.ofNat len)), .unset, .unset, .unset] [])) := entry rfl
  have c2 : Steps p.tables e below (s₁.setTop (entryFrame m #[.ref b, .int (Int32.ofNat o), .int (Int32.ofNat len)] 6)) (s₁.setTop (mkF m 1 #[.val (.ref b), .val (.int (Int32.ofNat o)), .val (.int (Int32.ofNat len)), .unset, .unset, .unset] [.int (Int32.ofNat len)])) := c1.trans (by
    refine XS.iloadN X0.here hexec rfl (hb hbytes d0) rfl ?_
    exact Steps.refl _)
  obtain ⟨T3, B3, X3, ba3, bs3, bv3, bh3, bf3, st3⟩ := X0.anew hexec (atype := .byte) (wk W (.arrayClass .byte)) rfl (by show len * 1 ≤ _; omega) (by omega) (g := (mkF m 1 #[.val (.ref b), .val (.int (Int32.ofNat o)), .val (.int (Int32.ofNat len)), .unset, .unset, .unset] [.int (Int32.ofNat len)])) rfl (hb hbytes d1) (rest := []) rfl (Nat.le_refl _) (by show 0 + len ≤ len; omega)
  rw [hh0] at ba3 st3
  have kp3 : XT.Kept s T3 := (XT.Kept.of_eq hh0).push bh3
  have hA3 := hA.keep X3.warmed.alike (kp3 _ _ hA.1.1)
  have hne : b ≠ s.heap.size := hA.1.ne
  have c4 : Steps p.tables e below (s₁.setTop (entryFrame m #[.ref b, .int (Int32.ofNat o), .int (Int32.ofNat len)] 6)) (T3.setTop (mkF m 3 #[.val (.ref b), .val (.int (Int32.ofNat o)), .val (.int (Int32.ofNat len)), .unset, .unset, .unset] [.ref s.heap.size])) := c2.trans (st3 _ (Steps.refl _))
  have c5 : Steps p.tables e below (s₁.setTop (entryFrame m #[.ref b, .int (Int32.ofNat o), .int (Int32.ofNat len)] 6)) (T3.setTop (mkF m 9 #[.val (.ref b), .val (.int (Int32.ofNat o)), .val (.int (Int32.ofNat len)), .val (.ref s.heap.size), .unset, .unset] [.int (Int32.ofNat len), .int 0, .ref s.heap.size, .int (Int32.ofNat o), .ref b])) := c4.trans (by
    refine XS.astoreN X3.here hexec rfl (hb hbytes d3) rfl rfl rfl ?_
    refine XS.aloadN X3.here hexec rfl (hb hbytes d4) rfl rfl ?_
    refine XS.iloadN X3.here hexec rfl (hb hbytes d5) rfl ?_
    refine XS.aloadN X3.here hexec rfl (hb hbytes d6) rfl rfl ?_
    refine iconstV X3.here hexec rfl 0 (hb hbytes d7) (by decide) ?_
    refine XS.iloadN X3.here hexec rfl (hb hbytes d8) rfl ?_
    exact Steps.refl _)
  obtain ⟨v6, T6, X6, E6, g6⟩ := X3.callS hexec (Cmp5.law l b A s.heap.size B3 o 0 len) hown (wks W (staticW U16 115 Cmp5.yN)) (wk W Cmp5.tab) (W := 0) (Nat.le_of_ble_eq_true rfl) (Nat.le_of_ble_eq_true rfl) (Nat.le_refl _) (by show 0 + len + 0 ≤ len; omega) (g := (mkF m 9 #[.val (.ref b), .val (.int (Int32.ofNat o)), .val (.int (Int32.ofNat len)), .val (.ref s.heap.size), .unset, .unset] [.int (Int32.ofNat len), .int (Int32.ofNat 0), .ref s.heap.size, .int (Int32.ofNat o), .ref b])) rfl (by rw [hml]; rfl) c5 (argsL := [.ref b, .int (Int32.ofNat o), .ref s.heap.size, .int (Int32.ofNat 0), .int (Int32.ofNat len)]) (rest := []) rfl rfl (by show 2 * 0 + 0 ≤ _; decide) (hb hbytes d9) (⟨rfl, hA3, ba3, hne, l1, by rw [bs3]; simp, hp⟩)
  obtain ⟨rfl, B6, p6, f6⟩ := E6
  have c7 : Steps p.tables e below (s₁.setTop (entryFrame m #[.ref b, .int (Int32.ofNat o), .int (Int32.ofNat len)] 6)) (T6.setTop (mkF m 12 #[.val (.ref b), .val (.int (Int32.ofNat o)), .val (.int (Int32.ofNat len)), .val (.ref s.heap.size), .unset, .unset] [.int (Int32.ofNat len)])) := g6
  have c8 : Steps p.tables e below (s₁.setTop (entryFrame m #[.ref b, .int (Int32.ofNat o), .int (Int32.ofNat len)] 6)) (T6.setTop (mkF m 58 #[.val (.ref b), .val (.int (Int32.ofNat o)), .val (.int (Int32.ofNat len)), .val (.ref s.heap.size), .val (.int (Int32.ofNat len)), .unset] [.ref s.heap.size])) := c7.trans (by
    refine XS.istore X6.here hexec rfl (hb hbytes d12) rfl rfl ?_
    refine XS.iload X6.here hexec rfl (hb hbytes d14) rfl ?_
    refine XS.iloadN X6.here hexec rfl (hb hbytes d16) rfl ?_
    refine XS.icmpYes X6.here hexec rfl (pc0 := 17) rfl (hb hbytes d17) rfl (ii_eq_t rfl) (by decide) rfl ?_
    refine XS.aloadN X6.here hexec rfl (hb hbytes d57) rfl rfl ?_
    exact Steps.refl _)
  have X8 := X6.wide (L' := []) (cells' := 1) (slots' := len) (fun x hx hlt => by
    simp only [List.nil_append, copyLocs, List.mem_map, List.mem_range] at hx
    obtain ⟨i, -, rfl⟩ := hx
    exact absurd hlt (Nat.lt_irrefl _)) (Nat.le_refl _) (by omega)
  exact ⟨T6, some (.ref s.heap.size), _, _, _, X8, rfl, rfl, rfl, (fun h => by cases h), ⟨⟨rfl, B6, ba3.like (X3.warmed.alike.symm.trans X6.warmed.alike) p6.1 f6.1 f6.2.1 f6.2.2.1, f6.2.1.trans bv3, by rw [X6.warmed.alike.findClass, f6.1]; exact bf3, by rw [f6.2.2.1, bs3]; simp, fun j hj => by rw [f6.2.2.2 j, if_pos (by omega)]; rfl, kp3.put p6 (Nat.le_refl _)⟩, by rw [p6.2.2, bh3, hh0]; simp⟩, fun fs hl => c8.trans (X8.areturnOut hexec rfl hret rfl (hb hbytes d58) hl)⟩
end Cmp3
namespace CodL
def yN : MethodName := ⟨"java/lang/StringUTF16", "coderFromArrayLen", "([BI)B"⟩
abbrev yB : ByteArray := jdk_52_method_15_code
theorem d0 : decode yB 0 = .ok (.iload_n 1, 1) := by decide +kernel
theorem d1 : decode yB 1 = .ok (.aload_n 0, 1) := by decide +kernel
theorem d2 : decode yB 2 = .ok (.arraylength, 1) := by decide +kernel
theorem d3 : decode yB 3 = .ok (.isub, 1) := by decide +kernel
theorem d4 : decode yB 4 = .ok (.bipush 31, 2) := by decide +kernel
theorem d6 : decode yB 6 = .ok (.iushr, 1) := by decide +kernel
theorem d7 : decode yB 7 = .ok (.i2b, 1) := by decide +kernel
theorem d8 : decode yB 8 = .ok (.ireturn, 1) := by decide +kernel
def site : List Cond := []
def tab : Cond := tabOf yN yB 2 (some .byte) site
def P (d : Addr) (B : Cell) (args : Array Value) (s : State) : Prop := args = #[.ref d, .int (Int32.ofNat B.slots.size)] ∧ Arr .byte d B s
def E (r : Option Value) (s u : State) : Prop := XT.PureE (some (.int 0)) r s u
/-- an array as long as the number of chars: LATIN1 -/
theorem law (l : Launch) (d : Addr) (B : Cell) : Law l yN 2 2 0 0 yB 2 (some .byte) site (P d B) E [] 0 0 := by
  refine Law.of_walk (plainFor_of_name (by decide +kernel)) (by decide +kernel) (by decide +kernel) (by decide) (fun _ _ h => by rw [h.1]; rfl) (fun _ U U' hal hh h => ⟨h.1, h.2.mv hal hh⟩) (fun r U U' V V' h1 hal h2 h => XT.PureE.mv r U U' V V' h1 hal h2 h) ?_
  intro p e s m args below meth c s₁ X0 hexec hbytes hml hret hlk hnm hown hh0 W hP
  obtain ⟨rfl, hB⟩ := hP
  have hB0 := hB.mv X0.warmed.alike hh0
  have c1 : Steps p.tables e below (s₁.setTop (entryFrame m #[.ref d, .int (Int32.ofNat B.slots.size)] 2)) (s₁.setTop (mkF m 0 #[.val (.ref d), .val (.int (Int32.ofNat B.slots.size))] [])) := entry rfl
  have c2 : Steps p.tables e below (s₁.setTop (entryFrame m #[.ref d, .int (Int32.ofNat B.slots.size)] 2)) (s₁.setTop (mkF m 2 #[.val (.ref d), .val (.int (Int32.ofNat B.slots.size))] [.ref d, .int (Int32.ofNat B.slots.size)])) := c1.trans (by
    refine XS.iloadN X0.here hexec rfl (hb hbytes d0) rfl ?_
    refine XS.aloadN X0.here hexec rfl (hb hbytes d1) rfl rfl ?_
    exact Steps.refl _)
  have c3 : Steps p.tables e below (s₁.setTop (entryFrame m #[.ref d, .int (Int32.ofNat B.slots.size)] 2)) (s₁.setTop (mkF m 8 #[.val (.ref d), .val (.int (Int32.ofNat B.slots.size))] [.int (lo8 (ushr (Int32.ofNat B.slots.size - Int32.ofNat B.slots.size) 31))])) := c2.trans (by
    refine X0.alen hexec hB0 rfl rfl (hb hbytes d2) ?_
    refine XS.isub X0.here hexec rfl (hb hbytes d3) rfl ?_
    refine bipushV X0.here hexec rfl 31 (hb hbytes d4) (by decide) ?_
    refine iushr X0.here hexec rfl (hb hbytes d6) rfl ?_
    refine i2b X0.here hexec rfl (hb hbytes d7) rfl ?_
    exact Steps.refl _)
  have e0 : lo8 (ushr (Int32.ofNat B.slots.size - Int32.ofNat B.slots.size) 31) = 0 := by rw [Int32.sub_self]; decide
  rw [e0] at c3
  exact ⟨s₁, some (.int 0), _, _, _, X0, rfl, rfl, rfl, (fun h => by cases h), ⟨rfl, hh0⟩, fun fs hl => c3.trans (X0.ireturnOut hexec hret rfl (Or.inr (Or.inr (Or.inl rfl))) (hb hbytes d8) hl)⟩
end CodL
/-- the String at a is Latin-1 over a new byte[] (the heap's one new cell): the low bytes of the len chars of A from o on; every cell but a is kept -/
def Got (a : Addr) (D : Cell) (fV fC : Field) (A : Cell) (o len : Nat) (r : Option Value) (s u : State) : Prop := r = none ∧ ∃ D' V : Cell, Blank "java/lang/String" a D' u ∧ Same D D' [fV.slot, fC.slot] ∧ D'.slots[fV.slot]? = some (.ref s.heap.size) ∧ D'.slots[fC.slot]? = some (.int 0) ∧ Arr .byte s.heap.size V u ∧ V.vm = .none ∧ u.vm.findClass "[B" = some V.cls ∧ V.slots.size = len ∧ (∀ j, j < len → V.slots[j]? = some (.int (lo8 (cv A (o + j))))) ∧ (∀ (y : Addr) (c : Cell), y ≠ a → s.heap[y]? = some c → u.heap[y]? = some c) ∧ u.heap.size = s.heap.size + 1
theorem Got.mv {a : Addr} {D A : Cell} {fV fC : Field} {o len : Nat} : ∀ r (U U' V V' : State), U'.heap = U.heap → V.vm.Alike V'.vm → V'.heap = V.heap → Got a D fV fC A o len r U V → Got a D fV fC A o len r U' V' :=
  fun r U U' V V' h1 hal h2 ⟨e0, D', X, a1, a2, a3, a4, a5, a6, a7, a8, a9, a10, a11⟩ => ⟨e0, D', X, a1.mv hal h2, a2, by rw [h1]; exact a3, a4, by rw [h1]; exact a5.mv hal h2, a6, by rw [hal.findClass]; exact a7, a8, a9, by rw [h1, h2]; exact a10, by rw [h1, h2]; exact a11⟩
namespace New4
def yN : MethodName := ⟨"java/lang/String", "<init>", "([CIILjava/lang/Void;)V"⟩
abbrev yB : ByteArray := jdk_42_method_149_code
theorem d0 : decode yB 0 = .ok (.aload_n 0, 1) := by decide +kernel
theorem d1 : decode yB 1 = .ok (.invokespecial 1, 3) := by decide +kernel
theorem d4 : decode yB 4 = .ok (.iload_n 3, 1) := by decide +kernel
theorem d5 : decode yB 5 = .ok (.ifCond (.ne) 22, 3) := by decide +kernel
theorem d27 : decode yB 27 = .ok (.getstatic 38, 3) := by decide +kernel
theorem d30 : decode yB 30 = .ok (.ifCond (.eq) 28, 3) := by decide +kernel
theorem d33 : decode yB 33 = .ok (.aload_n 1, 1) := by decide +kernel
theorem d34 : decode yB 34 = .ok (.iload_n 2, 1) := by decide +kernel
theorem d35 : decode yB 35 = .ok (.iload_n 3, 1) := by decide +kernel
theorem d36 : decode yB 36 = .ok (.invokestatic 177, 3) := by decide +kernel
theorem d39 : decode yB 39 = .ok (.astore 5, 2) := by decide +kernel
theorem d41 : decode yB 41 = .ok (.aload_n 0, 1) := by decide +kernel
theorem d42 : decode yB 42 = .ok (.aload 5, 2) := by decide +kernel
theorem d44 : decode yB 44 = .ok (.iload_n 3, 1) := by decide +kernel
theorem d45 : decode yB 45 = .ok (.invokestatic 47, 3) := by decide +kernel
theorem d48 : decode yB 48 = .ok (.putfield 15, 3) := by decide +kernel
theorem d51 : decode yB 51 = .ok (.aload_n 0, 1) := by decide +kernel
theorem d52 : decode yB 52 = .ok (.aload 5, 2) := by decide +kernel
theorem d54 : decode yB 54 = .ok (.putfield 9, 3) := by decide +kernel
theorem d57 : decode yB 57 = .ok (.return_, 1) := by decide +kernel
def site : List Cond := [.fieldLink "java/lang/String" 38 "java/lang/String" "COMPACT_STRINGS" "Z", Cmp3.tab, CodL.tab, .laysFinal "java/lang/String" "java/lang/String" "value" "[B", .fieldLink "java/lang/String" 9 "java/lang/String" "value" "[B", .laysFinal "java/lang/String" "java/lang/String" "coder" "B", .fieldLink "java/lang/String" 15 "java/lang/String" "coder" "B"] ++ objW "java/lang/String" 1 ++ staticW "java/lang/String" 177 Cmp3.yN ++ staticW "java/lang/String" 47 CodL.yN
def tab : Cond := tabOf yN yB 6 none site
def P (a : Addr) (D : Cell) (fV fC : Field) (b : Addr) (A : Cell) (z : Int32) (o len : Nat) (args : Array Value) (s : State) : Prop := args = #[.ref a, .ref b, .int (Int32.ofNat o), .int (Int32.ofNat len), .null] ∧ Blank "java/lang/String" a D s ∧ Found "java/lang/String" "value" "[B" fV s ∧ Found "java/lang/String" "coder" "B" fC s ∧ Ch b A s ∧ StaticIs s "java/lang/String" "COMPACT_STRINGS" "Z" (.int z) ∧ ¬ z = 0 ∧ 0 < len ∧ o + len ≤ A.slots.size ∧ len ≤ 536870912 ∧ ∀ i, i < len → ¬ 255 < cv A (o + i)
def E (a : Addr) (D : Cell) (fV fC : Field) (A : Cell) (o len : Nat) (r : Option Value) (s u : State) : Prop := Got a D fV fC A o len r s u
/-- len > 0, no char of the range above 255: a Latin-1 String of their low bytes -/
theorem law (l : Launch) (a : Addr) (D : Cell) (fV fC : Field) (b : Addr) (A : Cell) (z : Int32) (o len : Nat) : Law l yN 5 4 2 35 yB 6 none site (P a D fV fC b A z o len) (E a D fV fC A o len) [⟨a, fC.slot⟩, ⟨a, fV.slot⟩] 1 len := by
  refine Law.of_walk (plainFor_of_name (by decide +kernel)) (by decide +kernel) (by decide +kernel) (by decide) (fun _ _ h => by rw [h.1]; rfl) (fun _ U U' hal hh h => ⟨h.1, h.2.1.mv hal hh, h.2.2.1.al hal, h.2.2.2.1.al hal, h.2.2.2.2.1.mv hal hh, h.2.2.2.2.2.1.there hal hh, h.2.2.2.2.2.2⟩) (fun r U U' V V' h1 hal h2 h => Got.mv r U U' V V' h1 hal h2 h) ?_
  intro p e s m args below meth c s₁ X0 hexec hbytes hml hret hlk hnm hown hh0 W hP
  obtain ⟨rfl, hB, f1, f2, hA, s1, hz, l0, l1, l2, hp⟩ := hP
  have a31 := hA.1.2.2.2
  have c1 : Steps p.tables e below (s₁.setTop (entryFrame m #[.ref a, .ref b, .int (Int32.ofNat o), .int (Int32.ofNat len), .null] 6)) (s₁.setTop (mkF m 0 #[.val (.ref a), .val (.ref b), .val (.int (Int32.ofNat o)), .val (.int (Int32.ofNat len)), .val .null, .unset] [])) := entry rfl
  have c2 : Steps p.tables e below (s₁.setTop (entryFrame m #[.ref a, .ref b, .int (Int32.ofNat o), .int (Int32.ofNat len), .null] 6)) (s₁.setTop (mkF m 1 #[.val (.ref a), .val (.ref b), .val (.int (Int32.ofNat o)), .val (.int (Int32.ofNat len)), .val .null, .unset] [.ref a])) := c1.trans (by
    refine XS.aloadN X0.here hexec rfl (hb hbytes d0) rfl rfl ?_
    exact Steps.refl _)
  obtain ⟨T3, X3, q3, st3⟩ := X0.oinit hexec hown (wks W (objW "java/lang/String" 1)) (g := (mkF m 1 #[.val (.ref a), .val (.ref b), .val (.int (Int32.ofNat o)), .val (.int (Int32.ofNat len)), .val .null, .unset] [.ref a])) rfl (by rw [hml]; rfl) (rest := []) rfl (hb hbytes d1) (W := 0) (by show 2 * 0 + 0 ≤ _; decide) (Nat.le_of_ble_eq_true rfl) (Nat.le_of_ble_eq_true rfl)
  have hh3 := q3.trans hh0
  have c4 : Steps p.tables e below (s₁.setTop (entryFrame m #[.ref a, .ref b, .int (Int32.ofNat o), .int (Int32.ofNat len), .null] 6)) (T3.setTop (mkF m 27 #[.val (.ref a), .val (.ref b), .val (.int (Int32.ofNat o)), .val (.int (Int32.ofNat len)), .val .null, .unset] [])) := (c2.trans (st3 _ (Steps.refl _))).trans (by
    refine XS.iloadN X3.here hexec rfl (hb hbytes d4) rfl ?_
    refine XS.ifYes X3.here hexec rfl (pc0 := 5) rfl (hb hbytes d5) rfl (i0_ne_t (nz32 (by omega) l0)) (by decide) rfl ?_
    exact Steps.refl _)
  obtain ⟨T5, X5, q5, st5⟩ := X3.sget hexec hown (wk W (.fieldLink "java/lang/String" 38 "java/lang/String" "COMPACT_STRINGS" "Z")) s1 (fun _ _ h => by rw [hh3]; exact h) (g := (mkF m 27 #[.val (.ref a), .val (.ref b), .val (.int (Int32.ofNat o)), .val (.int (Int32.ofNat len)), .val .null, .unset] [])) rfl (hb hbytes d27)
  have hh5 := q5.trans hh3
  have c6 : Steps p.tables e below (s₁.setTop (entryFrame m #[.ref a, .ref b, .int (Int32.ofNat o), .int (Int32.ofNat len), .null] 6)) (T5.setTop (mkF m 30 #[.val (.ref a), .val (.ref b), .val (.int (Int32.ofNat o)), .val (.int (Int32.ofNat len)), .val .null, .unset] [.int z])) := c4.trans (st5 _ (Steps.refl _))
  have c7 : Steps p.tables e below (s₁.setTop (entryFrame m #[.ref a, .ref b, .int (Int32.ofNat o), .int (Int32.ofNat len), .null] 6)) (T5.setTop (mkF m 36 #[.val (.ref a), .val (.ref b), .val (.int (Int32.ofNat o)), .val (.int (Int32.ofNat len)), .val .null, .unset] [.int (Int32.ofNat len), .int (Int32.ofNat o), .ref b])) := c6.trans (by
    refine XS.ifNo X5.here hexec rfl (hb hbytes d30) rfl (i0_eq_f hz) ?_
    refine XS.aloadN X5.here hexec rfl (hb hbytes d33) rfl rfl ?_
    refine XS.iloadN X5.here hexec rfl (hb hbytes d34) rfl ?_
    refine XS.iloadN X5.here hexec rfl (hb hbytes d35) rfl ?_
    exact Steps.refl _)
  obtain ⟨v8, T8, X8, E8, g8⟩ := X5.callS hexec (Cmp3.law l b A o len) hown (wks W (staticW "java/lang/String" 177 Cmp3.yN)) (wk W Cmp3.tab) (W := 0) (Nat.le_of_ble_eq_true rfl) (Nat.le_of_ble_eq_true rfl) (Nat.le_refl _) (by show 0 + len ≤ len; omega) (g := (mkF m 36 #[.val (.ref a), .val (.ref b), .val (.int (Int32.ofNat o)), .val (.int (Int32.ofNat len)), .val .null, .unset] [.int (Int32.ofNat len), .int (Int32.ofNat o), .ref b])) rfl (by rw [hml]; rfl) c7 (argsL := [.ref b, .int (Int32.ofNat o), .int (Int32.ofNat len)]) (rest := []) rfl rfl (by show 2 * 0 + 0 ≤ _; decide) (hb hbytes d36) (⟨rfl, hA.mv X5.warmed.alike hh5, l1, l2, hp⟩)
  obtain ⟨e8, z8⟩ := E8
  obtain ⟨rfl, N, n1, n2, n3, n4, n5, n6⟩ := NewArr.mv _ T5 s _ _ hh5.symm (Vm.Alike.refl _) rfl e8
  rw [hh5] at z8
  have hB1 := hB.keep X8.warmed.alike (n6 _ _ hB.1)
  have hne : s.heap.size ≠ a := (Nat.ne_of_lt (Array.getElem?_eq_some_iff.mp hB.1).1).symm
  have c9 : Steps p.tables e below (s₁.setTop (entryFrame m #[.ref a, .ref b, .int (Int32.ofNat o), .int (Int32.ofNat len), .null] 6)) (T8.setTop (mkF m 39 #[.val (.ref a), .val (.ref b), .val (.int (Int32.ofNat o)), .val (.int (Int32.ofNat len)), .val .null, .unset] [.ref s.heap.size])) := g8
  have c10 : Steps p.tables e below (s₁.setTop (entryFrame m #[.ref a, .ref b, .int (Int32.ofNat o), .int (Int32.ofNat len), .null] 6)) (T8.setTop (mkF m 45 #[.val (.ref a), .val (.ref b), .val (.int (Int32.ofNat o)), .val (.int (Int32.ofNat len)), .val .null, .val (.ref s.heap.size)] [.int (Int32.ofNat N.slots.size), .ref s.heap.size, .ref a])) := by
    have hc : Steps p.tables e below (s₁.setTop (entryFrame m #[.ref a, .ref b, .int (Int32.ofNat o), .int (Int32.ofNat len), .null] 6)) (T8.setTop (mkF m 45 #[.val (.ref a), .val (.ref b), .val (.int (Int32.ofNat o)), .val (.int (Int32.ofNat len)), .val .null, .val (.ref s.heap.size)] [.int (Int32.ofNat len), .ref s.heap.size, .ref a])) := c9.trans (by
      refine XS.astore X8.here hexec rfl (hb hbytes d39) rfl rfl rfl ?_
      refine XS.aloadN X8.here hexec rfl (hb hbytes d41) rfl rfl ?_
      refine XS.aload X8.here hexec rfl (hb hbytes d42) rfl rfl ?_
      refine XS.iloadN X8.here hexec rfl (hb hbytes d44) rfl ?_
      exact Steps.refl _)
    rw [n4]; exact hc
  obtain ⟨v11, T11, X11, E11, g11⟩ := X8.callS hexec (CodL.law l s.heap.size N) hown (wks W (staticW "java/lang/String" 47 CodL.yN)) (wk W CodL.tab) (W := 1) (Nat.le_of_ble_eq_true rfl) (Nat.le_of_ble_eq_true rfl) (Nat.le_refl _) (by show 0 + len + 0 ≤ len; omega) (g := (mkF m 45 #[.val (.ref a), .val (.ref b), .val (.int (Int32.ofNat o)), .val (.int (Int32.ofNat len)), .val .null, .val (.ref s.heap.size)] [.int (Int32.ofNat N.slots.size), .ref s.heap.size, .ref a])) rfl (by rw [hml]; rfl) c10 (argsL := [.ref s.heap.size, .int (Int32.ofNat N.slots.size)]) (rest := [.ref a]) rfl rfl (by show 2 * 0 + (1 + 0) ≤ _; decide) (hb hbytes d45) (⟨rfl, n1⟩)
  obtain ⟨rfl, q11⟩ := E11
  have hB11 := hB1.mv (X8.warmed.alike.symm.trans X11.warmed.alike) q11
  have c12 : Steps p.tables e below (s₁.setTop (entryFrame m #[.ref a, .ref b, .int (Int32.ofNat o), .int (Int32.ofNat len), .null] 6)) (T11.setTop (mkF m 48 #[.val (.ref a), .val (.ref b), .val (.int (Int32.ofNat o)), .val (.int (Int32.ofNat len)), .val .null, .val (.ref s.heap.size)] [.int 0, .ref a])) := g11
  obtain ⟨T13, X13, p13, bl13, sl13, st13⟩ := X11.finit hexec hown (wk W (.fieldLink "java/lang/String" 15 "java/lang/String" "coder" "B")) (Or.inr ⟨_, (wk W (.laysFinal "java/lang/String" "java/lang/String" "coder" "B"))⟩) (Or.inl ⟨rfl, hnm⟩) f2 (Or.inl rfl) hB11 (t := .byte) (by decide +kernel) rfl (g := (mkF m 48 #[.val (.ref a), .val (.ref b), .val (.int (Int32.ofNat o)), .val (.int (Int32.ofNat len)), .val .null, .val (.ref s.heap.size)] [.int 0, .ref a])) rfl (rest := []) rfl (hb hbytes d48)
  have c14 : Steps p.tables e below (s₁.setTop (entryFrame m #[.ref a, .ref b, .int (Int32.ofNat o), .int (Int32.ofNat len), .null] 6)) (T13.setTop (mkF m 54 #[.val (.ref a), .val (.ref b), .val (.int (Int32.ofNat o)), .val (.int (Int32.ofNat len)), .val .null, .val (.ref s.heap.size)] [.ref s.heap.size, .ref a])) := (c12.trans (st13 _ (Steps.refl _))).trans (by
    refine XS.aloadN X13.here hexec rfl (hb hbytes d51) rfl rfl ?_
    refine XS.aload X13.here hexec rfl (hb hbytes d52) rfl rfl ?_
    exact Steps.refl _)
  obtain ⟨T15, X15, p15, bl15, sl15, st15⟩ := X13.finit hexec hown (wk W (.fieldLink "java/lang/String" 9 "java/lang/String" "value" "[B")) (Or.inr ⟨_, (wk W (.laysFinal "java/lang/String" "java/lang/String" "value" "[B"))⟩) (Or.inl ⟨rfl, hnm⟩) f1 (Or.inl rfl) bl13 (t := (.array .byte)) (by decide +kernel) rfl (g := (mkF m 54 #[.val (.ref a), .val (.ref b), .val (.int (Int32.ofNat o)), .val (.int (Int32.ofNat len)), .val .null, .val (.ref s.heap.size)] [.ref s.heap.size, .ref a])) rfl (rest := []) rfl (hb hbytes d54)
  have c16 : Steps p.tables e below (s₁.setTop (entryFrame m #[.ref a, .ref b, .int (Int32.ofNat o), .int (Int32.ofNat len), .null] 6)) (T15.setTop (mkF m 57 #[.val (.ref a), .val (.ref b), .val (.int (Int32.ofNat o)), .val (.int (Int32.ofNat len)), .val .null, .val (.ref s.heap.size)] [])) := c14.trans (st15 _ (Steps.refl _))
  have ap := apart (Or.inr ⟨_, (wk W (.laysFinal "java/lang/String" "java/lang/String" "value" "[B"))⟩) (Or.inr ⟨_, (wk W (.laysFinal "java/lang/String" "java/lang/String" "coder" "B"))⟩) f1 f2 (t₁ := .array .byte) (t₂ := .byte) (by decide +kernel) (by decide +kernel) (by decide)
  have al := X8.warmed.alike.symm.trans X15.warmed.alike
  have n7 : T11.heap[s.heap.size]? = some N := by rw [q11]; exact n1.1
  exact ⟨T15, none, _, _, _, X15, by simp, rfl, by omega, (fun _ => rfl), ⟨rfl, _, N, bl15, ((Same.refl D _).set _ (by simp)).set _ (by simp), sl15, (Cell.slots_setSlot_ne _ ap).trans sl13, n1.keep al (p15.other hne (p13.other hne n7)), n2, by rw [al.findClass]; exact n3, n4, n5, fun y c h1 h2 => p15.other h1 (p13.other h1 (by rw [q11]; exact n6 y c h2)), by rw [p15.2.2, p13.2.2, q11]; exact z8⟩, fun fs hl => c16.trans (X15.returnOut hexec hret (hb hbytes d57) hl)⟩
end New4
namespace New1
def yN : MethodName := ⟨"java/lang/String", "<init>", "([C)V"⟩
abbrev yB : ByteArray := jdk_42_method_3_code
theorem d0 : decode yB 0 = .ok (.aload_n 0, 1) := by decide +kernel
theorem d1 : decode yB 1 = .ok (.aload_n 1, 1) := by decide +kernel
theorem d2 : decode yB 2 = .ok (.iconst 0, 1) := by decide +kernel
theorem d3 : decode yB 3 = .ok (.aload_n 1, 1) := by decide +kernel
theorem d4 : decode yB 4 = .ok (.arraylength, 1) := by decide +kernel
theorem d5 : decode yB 5 = .ok (.aconst_null, 1) := by decide +kernel
theorem d6 : decode yB 6 = .ok (.invokespecial 27, 3) := by decide +kernel
theorem d9 : decode yB 9 = .ok (.return_, 1) := by decide +kernel
def site : List Cond := [New4.tab] ++ initW "java/lang/String" 27 New4.yN
def tab : Cond := tabOf yN yB 2 none site
def P (a : Addr) (D : Cell) (fV fC : Field) (b : Addr) (A : Cell) (z : Int32) (args : Array Value) (s : State) : Prop := args = #[.ref a, .ref b] ∧ Blank "java/lang/String" a D s ∧ Found "java/lang/String" "value" "[B" fV s ∧ Found "java/lang/String" "coder" "B" fC s ∧ Ch b A s ∧ StaticIs s "java/lang/String" "COMPACT_STRINGS" "Z" (.int z) ∧ ¬ z = 0 ∧ 0 < A.slots.size ∧ A.slots.size ≤ 536870912 ∧ ∀ i, i < A.slots.size → ¬ 255 < cv A i
def E (a : Addr) (D : Cell) (fV fC : Field) (A : Cell) (r : Option Value) (s u : State) : Prop := Got a D fV fC A 0 A.slots.size r s u
/-- new String(chars), not empty, no char above 255: a Latin-1 String of their low bytes -/
theorem law (l : Launch) (a : Addr) (D : Cell) (fV fC : Field) (b : Addr) (A : Cell) (z : Int32) : Law l yN 2 1 3 52 yB 2 none site (P a D fV fC b A z) (E a D fV fC A) [⟨a, fC.slot⟩, ⟨a, fV.slot⟩] 1 A.slots.size := by
  refine Law.of_walk (plainFor_of_name (by decide +kernel)) (by decide +kernel) (by decide +kernel) (by decide) (fun _ _ h => by rw [h.1]; rfl) (fun _ U U' hal hh h => ⟨h.1, h.2.1.mv hal hh, h.2.2.1.al hal, h.2.2.2.1.al hal, h.2.2.2.2.1.mv hal hh, h.2.2.2.2.2.1.there hal hh, h.2.2.2.2.2.2⟩) (fun r U U' V V' h1 hal h2 h => Got.mv r U U' V V' h1 hal h2 h) ?_
  intro p e s m args below meth c s₁ X0 hexec hbytes hml hret hlk hnm hown hh0 W hP
  obtain ⟨rfl, hB, f1, f2, hA, s1, hz, l0, l2, hp⟩ := hP
  have c1 : Steps p.tables e below (s₁.setTop (entryFrame m #[.ref a, .ref b] 2)) (s₁.setTop (mkF m 0 #[.val (.ref a), .val (.ref b)] [])) := entry rfl
  have c2 : Steps p.tables e below (s₁.setTop (entryFrame m #[.ref a, .ref b] 2)) (s₁.setTop (mkF m 6 #[.val (.ref a), .val (.ref b)] [.null, .int (Int32.ofNat A.slots.size), .int 0, .ref b, .ref a])) := c1.trans (by
    refine XS.aloadN X0.here hexec rfl (hb hbytes d0) rfl rfl ?_
    refine XS.aloadN X0.here hexec rfl (hb hbytes d1) rfl rfl ?_
    refine iconstV X0.here hexec rfl 0 (hb hbytes d2) (by decide) ?_
    refine XS.aloadN X0.here hexec rfl (hb hbytes d3) rfl rfl ?_
    refine X0.alen hexec (hA.1.mv X0.warmed.alike hh0) rfl rfl (hb hbytes d4) ?_
    refine XS.aconstNull X0.here hexec rfl (hb hbytes d5) ?_
    exact Steps.refl _)
  obtain ⟨v3, T3, X3, E3, g3⟩ := X0.callN hexec (New4.law l a D fV fC b A z 0 A.slots.size) rfl hown (wks W (initW "java/lang/String" 27 New4.yN)) (W New4.tab (by simp only [site, List.mem_cons, List.mem_append, true_or, or_true])) (W := 0) (Nat.le_of_ble_eq_true rfl) (Nat.le_of_ble_eq_true rfl) (Nat.le_refl _) (by show 0 + A.slots.size ≤ A.slots.size; omega) (g := (mkF m 6 #[.val (.ref a), .val (.ref b)] [.null, .int (Int32.ofNat A.slots.size), .int (Int32.ofNat 0), .ref b, .ref a])) rfl (by rw [hml]; rfl) c2 (argsL := [.ref b, .int (Int32.ofNat 0), .int (Int32.ofNat A.slots.size), .null]) (rest := []) rfl rfl (by show 2 * 0 + 0 ≤ _; decide) (hb hbytes d6) (⟨rfl, hB.mv X0.warmed.alike hh0, f1.al X0.warmed.alike, f2.al X0.warmed.alike, hA.mv X0.warmed.alike hh0, s1.there X0.warmed.alike hh0, hz, l0, by omega, l2, fun i hi => by rw [Nat.zero_add]; exact hp i hi⟩)
  have e0 := Got.mv _ s₁ s _ _ hh0.symm (Vm.Alike.refl _) rfl E3
  obtain rfl := e0.1
  have c4 : Steps p.tables e below (s₁.setTop (entryFrame m #[.ref a, .ref b] 2)) (T3.setTop (mkF m 9 #[.val (.ref a), .val (.ref b)] [])) := g3
  exact ⟨T3, none, _, _, _, X3, by simp, rfl, by omega, (fun _ => rfl), e0, fun fs hl => c4.trans (X3.returnOut hexec hret (hb hbytes d9) hl)⟩
theorem pays {l : Launch} {R : Room} {p : Program} {e : Env} {below : List Frame} {s : State} {sargs : Array Value} {len W : Nat} (a : Addr) (D : Cell) (fV fC : Field) (b : Addr) (A : Cell) (z : Int32) (htab : tab.before sargs s = true) (hfr : 4 ≤ R.frames) (hlo : W + 65 ≤ R.locals) :
    Back l R p e below s sargs yN len W (fun A₁ a₁ => A₁.cells + 1 ≤ R.cells ∧ A₁.slots + A.slots.size ≤ R.slots ∧ P a D fV fC b A z a₁ A₁.U) (fun A₁ _ v₁ B₁ => E a D fV fC A v₁ A₁.U B₁.U ∧ B₁.locs = A₁.locs ++ [⟨a, fC.slot⟩, ⟨a, fV.slot⟩] ∧ B₁.cells = A₁.cells + 1 ∧ B₁.slots = A₁.slots + A.slots.size) :=
  (law l a D fV fC b A z).pays htab hfr (by omega)
end New1
/-- the byte, read back as charAt reads it, is the char -/
theorem lo8_mask {x : Int32} (h0 : ¬ x < 0) (h1 : ¬ 255 < x) : lo8 x &&& 255 = x := by
  have t : ∀ k : Fin 256, lo8 (Int32.ofNat k.val) &&& 255 = Int32.ofNat k.val := by decide +kernel
  rw [Int32.lt_iff_toInt_lt] at h0 h1
  have e0 : (0 : Int32).toInt = 0 := rfl
  have e1 : (255 : Int32).toInt = 255 := rfl
  obtain ⟨k, hk⟩ : ∃ k : Nat, x.toInt = k := ⟨x.toInt.toNat, by omega⟩
  have hx : x = Int32.ofNat k := Int32.toInt_inj.mp (by rw [hk, Int32.toInt_ofNat_small (by omega)])
  rw [hx]
  exact t ⟨k, by omega⟩
end StrChars
namespace StrChars.Road
open Jvm Sem ClassFile Op Lib Jvm.Stand Jvm.Free Jvm.Free.XT
open Jvm.Lib.Cold (StaticIs)
abbrev ST : String := "java/lang/String"
/-- every table word that New1's law asks, flat -/
abbrev words : List Jvm.Cond := [.code New1.yN New1.yB 2 none, .initialized ST, .methodLink ST 27 New4.yN, .instanceMethod New4.yN,
  .code New4.yN New4.yB 6 none, .fieldLink ST 38 ST "COMPACT_STRINGS" "Z", .laysFinal ST ST "value" "[B", .fieldLink ST 9 ST "value" "[B", .laysFinal ST ST "coder" "B", .fieldLink ST 15 ST "coder" "B",
  .methodLink ST 1 Lib.objectInit, .instanceMethod Lib.objectInit, .code Lib.objectInit ⟨#[0xb1]⟩ 1 none, .methodLink ST 177 Cmp3.yN, .static Cmp3.yN, .methodLink ST 47 CodL.yN, .static CodL.yN,
  .code Cmp3.yN Cmp3.yB 6 (some (.array .byte)), .initialized U16, .arrayClass .byte, .methodLink U16 115 Cmp5.yN, .static Cmp5.yN, .code Cmp5.yN Cmp5.yB 7 (some .int), .code CodL.yN CodL.yB 2 (some .byte)]
theorem tab_of {a : Array Value} {s : State} (h : ∀ w ∈ words, w.before a s = true) : New1.tab.before a s = true := by
  have h5 : Cmp5.tab.before a s = true := unparts (wk h (.code Cmp5.yN Cmp5.yB 7 (some .int))) (wks h (.initialized Cmp5.yN.cls :: Cmp5.site))
  have hc : CodL.tab.before a s = true := unparts (wk h (.code CodL.yN CodL.yB 2 (some .byte))) (wks h (.initialized CodL.yN.cls :: CodL.site))
  have q5 : ∀ w ∈ Cmp5.tab :: words, w.before a s = true := fun w hw => (List.mem_cons.mp hw).elim (fun e => e ▸ h5) (h w)
  have h3 : Cmp3.tab.before a s = true := unparts (wk q5 (.code Cmp3.yN Cmp3.yB 6 (some (.array .byte)))) (wks q5 (.initialized Cmp3.yN.cls :: Cmp3.site))
  have q3 : ∀ w ∈ Cmp3.tab :: CodL.tab :: words, w.before a s = true := fun w hw => (List.mem_cons.mp hw).elim (fun e => e ▸ h3) fun hw => (List.mem_cons.mp hw).elim (fun e => e ▸ hc) (h w)
  have h4 : New4.tab.before a s = true := unparts (wk q3 (.code New4.yN New4.yB 6 none)) (wks q3 (.initialized New4.yN.cls :: New4.site))
  have q4 : ∀ w ∈ New4.tab :: words, w.before a s = true := fun w hw => (List.mem_cons.mp hw).elim (fun e => e ▸ h4) (h w)
  exact unparts (wk q4 (.code New1.yN New1.yB 2 none)) (wks q4 (.initialized New1.yN.cls :: New1.site))
/-- the words ride from the start Z to the walk's own state -/
theorem moved {Z s : State} {a0 args : Array Value} (hZ : Z.Warmed39 s.vm) (hw : ∀ d ∈ words, d.before a0 Z = true) : ∀ d ∈ words, d.before args s = true := fun d hd => by
  have q := hw d hd
  have t : ∀ d ∈ words, d = .arrayClass .byte ∨ (d.onTables && d.keepsFace) = true := by decide +kernel
  rcases t d hd with rfl | t
  · exact RoadKit.mvA hZ q
  · exact RoadKit.mv hZ q t
/-- WHAT COMES BACK, over the tables of the start Z: h the heap at the call, h' behind it -/
def Q (Z : State) (x : Addr) (A : Cell) (h : Heap) (v : Option Value) (h' : Heap) (L : List Loc) : Prop := v = none ∧ (∀ y ∈ L, y.base = x) ∧ RoadKit.Keep h h' [x] ∧ h'.size = h.size + 1 ∧ RoadKit.Exa Z h' x ST ∧ RoadKit.Fld Z h' x ST "value" "[B" (.ref h.size) ∧ RoadKit.Fld Z h' x ST "coder" "B" (.int 0) ∧
  (∃ V : Cell, RoadKit.Arr Z h' h.size V .byte ∧ V.vm = .none ∧ Z.vm.findClass "[B" = some V.cls ∧ V.slots.size = A.slots.size ∧ ∀ j, j < A.slots.size → V.slots[j]? = some (.int (lo8 (cv A j)))) ∧
  ∀ (O n d : String) (w : Value), RoadKit.Fld Z h x O n d w → RoadKit.slotOf Z O n d ≠ RoadKit.slotOf Z ST "value" "[B" → RoadKit.slotOf Z O n d ≠ RoadKit.slotOf Z ST "coder" "B" → RoadKit.Fld Z h' x O n d w
/-- **new String(chars) AT A CALL, IN THE ROAD'S FORM**: for specialBack behind newO: x the fresh String, b the char[] with the cell A -/
theorem back {p : Program} {l : Launch} {e : Env} {R : Room} {s : State} {args : Array Value} {below : List Frame} {len W : Nat} {Z : State} {a0 : Array Value} {h : Heap} (hZ : Z.Warmed39 s.vm) (hw : ∀ d ∈ words, d.before a0 Z = true) {kI : Nat} (wi : (Jvm.Cond.instantiable ST kI).before a0 Z = true)
    {x b : Addr} {A : Cell} {z : Int32} {v0 c0 : Value} (E : RoadKit.Exa Z h x ST) (V : RoadKit.Fld Z h x ST "value" "[B" v0) (C : RoadKit.Fld Z h x ST "coder" "B" c0) (K : RoadKit.Arr Z h b A .char) (hty : Typed .char A) (S : RoadKit.Sta Z h ST "COMPACT_STRINGS" "Z" (.int z)) (hz : ¬ z = 0)
    (l0 : 0 < A.slots.size) (l2 : A.slots.size ≤ 536870912) (hp : ∀ i, i < A.slots.size → ¬ 255 < cv A i) (hfr : 4 ≤ R.frames) (hlo : W + 65 ≤ R.locals) :
    Back l R p e below s args New1.yN len W (fun P a => a = #[.ref x, .ref b] ∧ P.U.heap = h ∧ P.cells + 1 ≤ R.cells ∧ P.slots + A.slots.size ≤ R.slots)
      (fun P _ v B => ∃ L, Q Z x A h v B.U.heap L ∧ B.locs = P.locs ++ L ∧ B.cells = P.cells + 1 ∧ B.slots = P.slots + A.slots.size) := by
  intro m meth c P g ig mk a X hg hsize hdg hW hn hp'
  obtain ⟨rfl, rfl, r1, r2⟩ := hp'
  have al : Z.vm.Alike P.U.vm := hZ.alike.trans X.warmed.alike
  obtain ⟨D, cfV, kV, iV, fV, hD, gV, stV, knV, obV, asV, slV⟩ := id V
  obtain ⟨D', cfC, kC, iC, fC, hD', gC, stC, -, -, asC, slC⟩ := id C
  cases hD.symm.trans hD'
  obtain ⟨D2, kD, e1, e2, e3, e4, e5⟩ := id E
  cases hD.symm.trans e1
  obtain ⟨c2, k2, i1, i2, i3, -⟩ := Cond.instantiable_spec wi
  cases e2.symm.trans i1
  cases e3.symm.trans i2
  obtain ⟨kU, u1, u2⟩ := al.2.2 _ _ e3
  have hB : Blank ST x D P.U := ⟨hD, ⟨knV, fun q hq => by rw [hq] at obV; cases obV⟩, by rw [al.findClass]; exact e2, kU, u1, by rw [u2]; exact i3, by rw [u2]; exact e5 i3⟩
  have F1 : Found ST "value" "[B" fV P.U := ⟨SBG.found_only al ⟨cfV, kV, iV, gV⟩, stV⟩
  have F2 : Found ST "coder" "B" fC P.U := ⟨SBG.found_only al ⟨cfC, kC, iC, gC⟩, stC⟩
  have hA : Ch b A P.U := ⟨⟨K.1, State.isArrayOf_alike al K.2.1, K.2.2, by omega⟩, hty⟩
  have hS : StaticIs P.U ST "COMPACT_STRINGS" "Z" (.int z) := by
    obtain ⟨cfS, iS, kS, fS, st, cS, t1, t2, t3, t4, t5, t6, t7⟩ := S
    exact StaticIs.there (s := { Z with heap := P.U.heap }) ⟨cfS, iS, kS, fS, st, cS, t1, t2, t3, t4, t5, (fun q => by rw [q] at t6; cases t6), t7⟩ al rfl
  obtain ⟨v, B, X', ⟨⟨hv, E', V', q1, q2, q3, q4, q5, q6, q7, q8, q9, q10, q11⟩, hl, hc, hs⟩, st⟩ := New1.pays x D fV fC b A z (tab_of (moved hZ hw)) hfr hlo m meth c P g ig mk _ X hg hsize hdg hW hn ⟨r1, r2, rfl, hB, F1, F2, hA, hS, hz, l0, l2, hp⟩
  have al' : Z.vm.Alike B.U.vm := hZ.alike.trans X'.warmed.alike
  have hsz : E'.slots.size = D.slots.size := by
    obtain ⟨-, -, -, kB, w1, w2, w3⟩ := q1
    obtain ⟨kB', y1, y2⟩ := al'.2.2 _ _ e3
    rw [q2.2.1] at w1
    cases w1.symm.trans y1
    rw [w3, e5 i3, y2]
  refine ⟨v, B, X', ⟨_, ⟨hv, ?_, ⟨by omega, fun y cy hy hn' => q10 y cy (by simpa using hn') hy, fun y cy hy => ?_⟩, q11, ⟨E', _, q1.1, by rw [q2.2.1]; exact e2, by rw [q2.2.1]; exact e3, by rw [q2.1]; exact obV, fun _ => by rw [hsz]; exact e5 i3⟩,
    ⟨E', cfV, kV, iV, fV, q1.1, gV, stV, by rw [q2.1]; exact knV, by rw [q2.1]; exact obV, by rw [q2.2.1]; exact asV, q3⟩, ⟨E', cfC, kC, iC, fC, q1.1, gC, stC, by rw [q2.1]; exact knV, by rw [q2.1]; exact obV, by rw [q2.2.1]; exact asC, q4⟩,
    ⟨V', ⟨q5.1, State.isArrayOf_alike al'.symm q5.2.1, q5.2.2.1⟩, q6, by rw [← al'.findClass]; exact q7, q8, fun j hj => by have := q9 j hj; rwa [Nat.zero_add] at this⟩, fun O n d w F n1 n2 => ?_⟩, hl, hc, hs⟩, st⟩
  · intro y hy
    simp only [List.mem_cons, List.not_mem_nil, or_false] at hy
    rcases hy with rfl | rfl <;> rfl
  · by_cases q : y = x
    · subst q
      cases hD.symm.trans hy
      exact ⟨E', q1.1, q2.2.1, q2.1, hsz⟩
    · exact ⟨cy, q10 y cy q hy, rfl, rfl, rfl⟩
  · obtain ⟨D3, cf, k, i, f, g1, g2, g3, g4, g5, g6, g7⟩ := F
    cases hD.symm.trans g1
    simp only [RoadKit.slotOf, g2, gV, gC, Option.map_some, Option.getD_some] at n1 n2
    exact ⟨E', cf, k, i, f, q1.1, g2, g3, by rw [q2.1]; exact g4, by rw [q2.1]; exact g5, by rw [q2.2.1]; exact g6, by rw [q2.2.2 f.slot (by simp [n1, n2])]; exact g7⟩
end StrChars.Road
namespace StrChars.Road
open Jvm Sem ClassFile Op Lib Jvm.Stand Jvm.Free Jvm.Free.XT
/-- WHAT COMES BACK, the byte[] as a list of values -/
def QA (Z : State) (x : Addr) (zn : Int32) (cs : List Int32) (h : Heap) (v : Option Value) (h' : Heap) (L : List Loc) : Prop := v = none ∧ (∀ y ∈ L, y.base = x) ∧ RoadKit.Keep h h' [x] ∧ h'.size = h.size + 1 ∧ RoadKit.Exa Z h' x ST ∧ RoadKit.Fld Z h' x ST "value" "[B" (.ref h.size) ∧ RoadKit.Fld Z h' x ST "coder" "B" (.int 0) ∧
  (∃ kb, Z.vm.findClass "[B" = some kb ∧ RoadKit.Arv Z h' h.size kb .byte zn (cs.map fun c => .int (lo8 c)) (.int 0)) ∧
  ∀ (O n d : String) (w : Value), RoadKit.Fld Z h x O n d w → RoadKit.slotOf Z O n d ≠ RoadKit.slotOf Z ST "value" "[B" → RoadKit.slotOf Z O n d ≠ RoadKit.slotOf Z ST "coder" "B" → RoadKit.Fld Z h' x O n d w
/-- **new String(chars) AT A CALL, THE ARRAYS AS LISTS**: the char[] at b holds cs, not empty, no char above 255 -/
theorem backArv {p : Program} {l : Launch} {e : Env} {R : Room} {s : State} {args : Array Value} {below : List Frame} {len W : Nat} {Z : State} {a0 : Array Value} {h : Heap} (hZ : Z.Warmed39 s.vm) (hw : ∀ d ∈ words, d.before a0 Z = true) {kI : Nat} (wi : (Jvm.Cond.instantiable ST kI).before a0 Z = true)
    {x b : Addr} {k : ClassId} {zn z : Int32} {cs : List Int32} {dv v0 c0 : Value} (E : RoadKit.Exa Z h x ST) (V : RoadKit.Fld Z h x ST "value" "[B" v0) (C : RoadKit.Fld Z h x ST "coder" "B" c0) (K : RoadKit.Arv Z h b k .char zn (cs.map Value.int) dv) (S : RoadKit.Sta Z h ST "COMPACT_STRINGS" "Z" (.int z)) (hz : ¬ z = 0)
    (hlen : zn.toNatClampNeg = cs.length) (h0 : 0 < cs.length) (hbig : cs.length ≤ 536870912) (hall : ∀ c ∈ cs, ¬ 255 < c) (hfr : 4 ≤ R.frames) (hlo : W + 65 ≤ R.locals) :
    Back l R p e below s args New1.yN len W (fun P a => a = #[.ref x, .ref b] ∧ P.U.heap = h ∧ P.cells + 1 ≤ R.cells ∧ P.slots + cs.length ≤ R.slots)
      (fun P _ v B => ∃ L, QA Z x zn cs h v B.U.heap L ∧ B.locs = P.locs ++ L ∧ B.cells = P.cells + 1 ∧ B.slots = P.slots + cs.length) := by
  obtain ⟨A, K1, K2, K3, K4, K5, K6⟩ := K
  have e : A.slots.size = cs.length := K3.trans hlen
  have hat : ∀ (i : Nat) (hi : i < cs.length), A.slots[i]? = some (.int cs[i]) := fun i hi => by rw [K5 i (by omega)]; simp [List.getD_eq_getElem?_getD, hi]
  have hcv : ∀ (i : Nat) (hi : i < cs.length), cv A i = cs[i] := fun i hi => by unfold cv; rw [hat i hi]
  have hty : Typed .char A := fun i v hv => by
    have hi : i < A.slots.size := (Array.getElem?_eq_some_iff.mp hv).1
    have q := K5 i hi
    rw [hv] at q
    rw [Option.some.inj q]
    exact K6 i hi
  refine Back.mono (back hZ hw wi E V C K1 hty S hz (by omega) (by omega) (fun i hi => by rw [hcv i (by omega)]; exact hall _ (List.getElem_mem _)) hfr hlo) (fun P a hp => ⟨hp.1, hp.2.1, hp.2.2.1, by rw [e]; exact hp.2.2.2⟩) (fun P a v B hp hq => ?_)
  obtain ⟨L, ⟨q1, q2, q3, q4, q5, q6, q7, ⟨V', v1, v2, v3, v4, v5⟩, q9⟩, hl, hc, hs⟩ := hq
  refine ⟨L, ⟨q1, q2, q3, q4, q5, q6, q7, ⟨V'.cls, v3, V', v1, rfl, by rw [v4, e, hlen], K4, fun i hi => ?_, fun i hi => ?_⟩, q9⟩, hl, hc, by rw [hs, e]⟩
  · have hi' : i < cs.length := by omega
    rw [v5 i (by omega), hcv i hi']; simp [List.getD_eq_getElem?_getD, hi']
  · have hi' : i < cs.length := by omega
    simp only [List.getD_eq_getElem?_getD, List.getElem?_map, List.getElem?_eq_getElem hi', Option.map_some, Option.getD_some]
    exact fits_lo8 _
end StrChars.Road
namespace StrChars.Road
open Jvm Sem ClassFile Op Lib Jvm.Stand Jvm.Free Jvm.Free.XT
/-- WHAT COMES BACK, in the writer's own shape -/
def QV (Z : State) (x : Addr) (N : Int32) (bs : List Int32) (h : Heap) (n0 : Nat) (v : Option Value) (h' : Heap) (L : List Loc) : Prop := v = none ∧ RoadKit.Fr n0 L ∧ RoadKit.Keep h h' [x] ∧ RoadKit.Exa Z h' x ST ∧ RoadKit.Fld Z h' x ST "coder" "B" (.int 0) ∧
  ∃ (t : Addr) (kb : ClassId), n0 ≤ t ∧ h.size ≤ t ∧ ¬ t = x ∧ RoadKit.Fld Z h' x ST "value" "[B" (.ref t) ∧ RoadKit.Arv Z h' t kb .byte N (bs.map Value.int) (.int 0)
/-- **new String(chars) AT A CALL, FOR THE WRITER**: a char[] of n known ints, each 0 to 255 -/
theorem backV {p : Program} {l : Launch} {e : Env} {R : Room} {s : State} {args : Array Value} {below : List Frame} {len W : Nat} {Z : State} {a0 : Array Value} {h : Heap} (hZ : Z.Warmed39 s.vm) (hw : ∀ d ∈ words, d.before a0 Z = true) {kI : Nat} (wi : (Jvm.Cond.instantiable ST kI).before a0 Z = true)
    {x b : Addr} {kC : ClassId} {cs bs : List Int32} {d v0 c0 : Value} {z N : Int32} {n n0 : Nat} (hx0 : n0 ≤ x) (hh0 : n0 ≤ h.size) (E : RoadKit.Exa Z h x ST) (V : RoadKit.Fld Z h x ST "value" "[B" v0) (C : RoadKit.Fld Z h x ST "coder" "B" c0) (K : RoadKit.Arv Z h b kC .char N (cs.map Value.int) d) (S : RoadKit.Sta Z h ST "COMPACT_STRINGS" "Z" (.int z)) (hz : ¬ z = 0)
    (hn : cs.length = n) (hN : N = Int32.ofNat n) (l0 : 0 < n) (l2 : n ≤ 4000) (hp : ∀ c ∈ cs, ¬ c < 0 ∧ ¬ (255 : Int32) < c) (hb : bs = cs.map (fun c => c.toInt8.toInt32)) (hfr : 4 ≤ R.frames) (hlo : W + 65 ≤ R.locals) :
    Back l R p e below s args (⟨"java/lang/String", "<init>", "([C)V"⟩ : MethodName) len W (fun P a => a = #[.ref x, .ref b] ∧ P.U.heap = h ∧ P.cells + 1 ≤ R.cells ∧ P.slots + n ≤ R.slots)
      (fun P _ v B => ∃ L, QV Z x N bs h n0 v B.U.heap L ∧ B.locs = P.locs ++ L ∧ B.cells = P.cells + 1 ∧ B.slots = P.slots + n) := by
  subst hn hN hb
  refine Back.mono (backArv hZ hw wi E V C K S hz (n32 (by omega)) l0 (by omega) (fun c hc => (hp c hc).2) hfr hlo) (fun P a hp => hp) (fun P a v B hp hq => ?_)
  obtain ⟨L, ⟨q1, q2, q3, q4, q5, q6, q7, ⟨kb, v1, v2⟩, q9⟩, hl, hc, hs⟩ := hq
  exact ⟨L, ⟨q1, fun y hy => by rw [q2 y hy]; exact hx0, q3, q5, q7, h.size, kb, hh0, Nat.le_refl _, Nat.ne_of_gt E.lt, q6, by rw [List.map_map]; exact v2⟩, hl, hc, hs⟩
end StrChars.Road
namespace StrChars
open Jvm Sem ClassFile Op Lib Jvm.Stand Jvm.Free.XT Jvm.Free.ALB Jvm.Free.JM Jvm.Free
open Jvm.Lib.Cold (StaticIs)
def hi8 (x : Int32) : Int32 := lo8 (x >>> ((8 : Int32) &&& 31))
/-- what StringUTF16.getChar makes of two bytes -/
def pairCh (u v : Int32) : Int32 := (((u &&& 255) <<< ((0 : Int32) &&& 31)) ||| ((v &&& 255) <<< ((8 : Int32) &&& 31))).toUInt32.toUInt16.toUInt32.toInt32
theorem lo8_and (x : Int32) : (lo8 x &&& 255).toBitVec.toNat = x.toBitVec.toNat % 256 := by
  have h : (lo8 x).toBitVec = (x.toBitVec.signExtend 8).signExtend 32 := by rw [lo8, Int8.toBitVec_toInt32, Int32.toBitVec_toInt8]
  rw [Int32.toBitVec_and, BitVec.toNat_and, h]
  have e : ((x.toBitVec.signExtend 8).signExtend 32).toNat % 256 = x.toBitVec.toNat % 256 := by
    rw [BitVec.toNat_signExtend]
    have hlt := x.toBitVec.isLt
    simp only [BitVec.toNat_setWidth, BitVec.toNat_signExtend]
    split <;> split <;> omega
  rw [← e]
  exact Nat.and_two_pow_sub_one_eq_mod _ 8
theorem pair_says {c : Int32} (h0 : ¬ c < 0) (h1 : ¬ 65535 < c) : pairCh (lo8 c) (hi8 c) = c := by
  rw [Int32.lt_iff_toInt_lt] at h0 h1
  have e0 : (0 : Int32).toInt = 0 := rfl
  have e1 : (65535 : Int32).toInt = 65535 := rfl
  have hc : c.toInt = c.toBitVec.toNat := by
    have := c.toBitVec.isLt
    have e : c.toInt = c.toBitVec.toInt := rfl
    rw [e] at h0 h1
    rw [e]
    rw [BitVec.toInt_eq_toNat_cond] at h0 h1 ⊢
    split at h0 <;> split <;> omega
  have hn : c.toBitVec.toNat < 65536 := by omega
  have a1 := lo8_and c
  have a2 : (hi8 c &&& 255).toBitVec.toNat = c.toBitVec.toNat / 256 := by
    rw [hi8, lo8_and]
    have e : ((8 : Int32) &&& 31) = 8 := by decide
    rw [e, Int32.toBitVec_shiftRight]
    have e2 : ((8 : Int32).toBitVec.smod 32) = 8#32 := by decide
    rw [e2, BitVec.sshiftRight_eq', BitVec.toNat_sshiftRight_of_msb_false (by rw [BitVec.msb_eq_false_iff_two_mul_lt]; omega)]
    show c.toBitVec.toNat >>> 8 % 256 = _
    rw [Nat.shiftRight_eq_div_pow]
    omega
  unfold pairCh
  apply Int32.toBitVec_inj.mp
  apply BitVec.eq_of_toNat_eq
  have f0 : ((0 : Int32) &&& 31) = 0 := by decide
  have f8 : ((8 : Int32) &&& 31) = 8 := by decide
  rw [f0, f8]
  have g : (((lo8 c &&& 255) <<< (0 : Int32)) ||| ((hi8 c &&& 255) <<< (8 : Int32))).toBitVec.toNat = c.toBitVec.toNat := by
    rw [Int32.toBitVec_or, Int32.toBitVec_shiftLeft, Int32.toBitVec_shiftLeft]
    have s0 : ((0 : Int32).toBitVec.smod 32) = 0#32 := by decide
    have s8 : ((8 : Int32).toBitVec.smod 32) = 8#32 := by decide
    rw [s0, s8, BitVec.toNat_or]
    simp only [BitVec.shiftLeft_eq', BitVec.toNat_shiftLeft, a1, a2]
    show (c.toBitVec.toNat % 256) <<< 0 % 2 ^ 32 ||| (c.toBitVec.toNat / 256) <<< 8 % 2 ^ 32 = _
    rw [Nat.shiftLeft_zero, Nat.mod_eq_of_lt (show c.toBitVec.toNat % 256 < 2 ^ 32 by omega), Nat.mod_eq_of_lt (show (c.toBitVec.toNat / 256) <<< 8 < 2 ^ 32 by rw [Nat.shiftLeft_eq]; omega), Nat.or_comm, ← Nat.shiftLeft_add_eq_or_of_lt (by omega), Nat.shiftLeft_eq]
    omega
  show BitVec.toNat (((((lo8 c &&& 255) <<< (0 : Int32)) ||| ((hi8 c &&& 255) <<< (8 : Int32))).toBitVec.setWidth 16).setWidth 32) = _
  rw [BitVec.toNat_setWidth, BitVec.toNat_setWidth, g]
  omega
end StrChars
namespace StrChars
open Jvm Sem ClassFile Op Lib Jvm.Stand Jvm.Free.XT Jvm.Free.ALB Jvm.Free.JM Jvm.Free
open Jvm.Lib.Cold (StaticIs)
/-- charAt's cast of a byte read back -/
def chr8 (u : Int32) : Int32 := (u &&& 255).toUInt32.toUInt16.toUInt32.toInt32
theorem chr8_lo8 {c : Int32} (h0 : ¬ c < 0) (h1 : ¬ 255 < c) : chr8 (lo8 c) = c := by
  have t : ∀ k : Fin 256, (Int32.ofNat k.val).toUInt32.toUInt16.toUInt32.toInt32 = Int32.ofNat k.val := by decide +kernel
  unfold chr8
  rw [lo8_mask h0 h1]
  rw [Int32.lt_iff_toInt_lt] at h0 h1
  have e0 : (0 : Int32).toInt = 0 := rfl
  have e1 : (255 : Int32).toInt = 255 := rfl
  obtain ⟨k, hk⟩ : ∃ k : Nat, c.toInt = k := ⟨c.toInt.toNat, by omega⟩
  have hx : c = Int32.ofNat k := Int32.toInt_inj.mp (by rw [hk, Int32.toInt_ofNat_small (by omega)])
  rw [hx]
  exact t ⟨k, by omega⟩
theorem narrow_ch {c : Int32} (h0 : ¬ c < 0) (h1 : ¬ 65535 < c) : narrow .char (.int c) = .int c := by
  have q : narrow .char (.int (pairCh (lo8 c) (hi8 c))) = .int (pairCh (lo8 c) (hi8 c)) := narrow_c _
  rwa [pair_says h0 h1] at q
end StrChars
end Jvm.Pilot.@@N@@

namespace Jvm.Pilot.@@N@@
open Jvm Jvm.ClassFile Sem Op Lib Jvm.Free Jvm.Stand Jvm.LawKit Jvm.RoadKit Bundle Jvm.Pilot.@@N@@.Jvm.D
abbrev vi (n : Int32) : Slot := .val (.int n)
abbrev vj (n : Int64) : Slot := .val (.long n)
abbrev vr (a : Addr) : Slot := .val (.ref a)
theorem cat_i (n : Int32) : (Value.int n).category = 1 := rfl
theorem cat_j (n : Int64) : (Value.long n).category = 2 := rfl
theorem cat_r (a : Addr) : (Value.ref a).category = 1 := rfl
theorem cat_n : Value.null.category = 1 := rfl
theorem wq {Z : State} {a0 : Array Value} (hw : ∀ d ∈ tables_1, d.before a0 Z = true) (i : Nat) {d : Cond} (h : tables_1[i]? = some d) : d.before a0 Z = true := hw d (List.mem_of_getElem? h)
def digO : List Value := (List.range 100).map (fun k => .int (Int32.ofNat (48 + k % 10)))
def digT : List Value := (List.range 100).map (fun k => .int (Int32.ofNat (48 + k / 10)))
/-- what is said of the start -/
def Wd (Z : State) (a0 : Array Value) : Prop := (∀ d ∈ tables_1, d.before a0 Z = true) ∧ (∃ z : Int32, Sta Z Z.heap "java/lang/String" "COMPACT_STRINGS" "Z" (.int z) ∧ ¬ z = 0) ∧ (∃ w : Value, Sta Z Z.heap "jdk/internal/util/Preconditions" "SIOOBE_FORMATTER" "Ljava/util/function/BiFunction;" w ∧ w.isRef = true) ∧ (∃ (d1 d2 : Addr) (k1 k2 : ClassId), Sta Z Z.heap "java/lang/Integer" "DigitOnes" "[B" (.ref d1) ∧ Sta Z Z.heap "java/lang/Integer" "DigitTens" "[B" (.ref d2) ∧ Arv Z Z.heap d1 k1 .byte (100 : Int32) digO (.int 0) ∧ Arv Z Z.heap d2 k2 .byte (100 : Int32) digT (.int 0))
def EL : List (String × Nat) := [("java/lang/String", 7), ("com/example/wire_to_worker/wiretoworker/broker/QueueName", 20), ("com/example/wire_to_worker/wiretoworker/broker/QueueName", 29)]
theorem el_of {Z : State} {a0 : Array Value} (hw : ∀ d ∈ tables_1, d.before a0 Z = true) : EW Z a0 EL := (EW.cons (wq hw 14 rfl) (by decide) (EW.cons (wq hw 61 rfl) (by decide) (EW.cons (wq hw 132 rfl) (by decide) EW.nil)))
theorem words_sa : ∀ d ∈ Bundle.stringAtoms, d ∈ tables_1 := by decide +kernel
theorem words_new : ∀ d ∈ StrChars.Road.words, d ∈ tables_1 := by decide +kernel
theorem bm32 {z : Int} (h1 : -2147483648 ≤ z) (h2 : z < 2147483648) : z.bmod (2 ^ 32) = z := by
  rw [Int.bmod_eq_of_le] <;> omega
theorem bm64 {z : Int} (h1 : -9223372036854775808 ≤ z) (h2 : z < 9223372036854775808) : z.bmod (2 ^ 64) = z := by
  rw [Int.bmod_eq_of_le] <;> omega
theorem q_lem {i : Int32} {B : Nat} (h : i.toInt = -(B : Int)) : (i / 100).toInt = -((B / 100 : Nat) : Int) := by
  rw [Int32.toInt_div_of_ne_right _ _ (by decide), h]
  have e : (100 : Int32).toInt = 100 := rfl
  rw [e, Int.neg_tdiv, Int.tdiv_eq_ediv_of_nonneg (by omega)]
  omega
theorem r_lem {i q : Int32} {B : Nat} (hB : B ≤ 2147483648) (h : i.toInt = -(B : Int)) (hq : q.toInt = -((B / 100 : Nat) : Int)) : q * 100 - i = Int32.ofNat (B % 100) := by
  apply Int32.toInt_inj.mp
  have e : (100 : Int32).toInt = 100 := rfl
  rw [Int32.toInt_sub, Int32.toInt_mul, hq, h, e, ofn_toInt (by omega), bm32 (z := -((B / 100 : Nat) : Int) * 100) (by omega) (by omega), bm32 (by omega) (by omega)]
  omega
theorem neg_lem {i : Int32} {B : Nat} (hB : B < 2147483648) (h : i.toInt = -(B : Int)) : -i = Int32.ofNat B := by
  apply Int32.toInt_inj.mp
  rw [Int32.toInt_neg, h, ofn_toInt hB, bm32 (by omega) (by omega)]
  omega
theorem cmp_lem {i p : Int32} {B P : Nat} (h : i.toInt = -(B : Int)) (hp : p.toInt = -(P : Int)) : p < i ↔ B < P := by
  rw [Int32.lt_iff_toInt_lt, h, hp]; omega
theorem pos_lem {x : Int32} (h : ¬ x < 0) : (-x).toInt = -((x.toInt.toNat : Nat) : Int) ∧ x.toInt.toNat < 2147483648 := by
  rw [Int32.lt_iff_toInt_lt] at h
  have e0 : (0 : Int32).toInt = 0 := rfl
  have := Int32.toInt_lt x
  rw [Int32.toInt_neg, bm32 (by omega) (by omega)]
  omega
theorem ngt_lem {x : Int32} (h : x < 0) : x.toInt = -(((-x.toInt).toNat : Nat) : Int) ∧ (-x.toInt).toNat ≤ 2147483648 := by
  rw [Int32.lt_iff_toInt_lt] at h
  have e0 : (0 : Int32).toInt = 0 := rfl
  have := Int32.le_toInt x
  omega
def Dig (A d : Nat) : Prop := 1 ≤ d ∧ d ≤ 10 ∧ A < 10 ^ d ∧ (d = 1 ∨ 10 ^ (d - 1) ≤ A)
theorem dig_lt {A d e : Nat} (h : Dig A d) (g : Dig A e) : ¬ d < e := fun q => by
  obtain ⟨h1, h2, h3, h4⟩ := h
  obtain ⟨g1, g2, g3, g4⟩ := g
  have : 10 ^ d ≤ 10 ^ (e - 1) := Nat.pow_le_pow_right (by decide) (by omega)
  omega
theorem dig_uniq {A d e : Nat} (h : Dig A d) (g : Dig A e) : d = e := by
  have := dig_lt h g
  have := dig_lt g h
  omega
def dgs (A d : Nat) : List Int32 := (List.range d).map (fun j => Int32.ofNat (48 + A / 10 ^ (d - 1 - j) % 10))
theorem dgs_len {A d : Nat} : (dgs A d).length = d := by simp [dgs]
theorem dgs_at {A d j : Nat} (h : j < d) : (dgs A d)[j]? = some (Int32.ofNat (48 + A / 10 ^ (d - 1 - j) % 10)) := by simp [dgs, h]
theorem ofn_rng {m : Nat} (h : m < 128) : ¬ Int32.ofNat m < 0 ∧ ¬ (255 : Int32) < Int32.ofNat m := by
  rw [Int32.lt_iff_toInt_lt, Int32.lt_iff_toInt_lt, ofn_toInt (by omega)]
  have e0 : (0 : Int32).toInt = 0 := rfl
  have e1 : (255 : Int32).toInt = 255 := rfl
  omega
theorem b8_small {m : Nat} (h : m < 128) : (Int32.ofNat m).toInt8.toInt32 = Int32.ofNat m :=
  (by decide : ∀ k : Fin 128, (Int32.ofNat k.1).toInt8.toInt32 = Int32.ofNat k.1) ⟨m, h⟩
theorem ofn_dec {n : Nat} (h : 1 ≤ n) : Int32.ofNat n + (-1 : Int32) = Int32.ofNat (n - 1) := by
  obtain ⟨k, rfl⟩ : ∃ k, n = k + 1 := ⟨n - 1, by omega⟩
  rw [show Int32.ofNat (k + 1) = Int32.ofNat k + 1 from (Int32.ofNat_add k 1), Int32.add_assoc]
  simp
theorem dset {α : Type} {l : List α} {p : Nat} {v : α} (h : p < l.length) : (l.set p v).drop p = v :: l.drop (p + 1) := by
  rw [List.drop_set, if_neg (by omega), Nat.sub_self, List.drop_eq_getElem_cons h, List.set_cons_zero]
theorem tset {α : Type} {l : List α} {n p : Nat} {v : α} (h : n ≤ p) : (l.set p v).take n = l.take n := by
  rw [List.take_set]
  apply List.set_eq_of_length_le
  simp; omega
theorem dset2 {α : Type} {l : List α} {n p : Nat} {v : α} (h : p < n) : (l.set p v).drop n = l.drop n := List.drop_set_of_lt h
theorem dgs_1 {A : Nat} (h : A < 10 ^ 1) : dgs A 1 = [Int32.ofNat (48 + (A) % 10)] := by
  simp only [dgs, List.range, List.range.loop, List.map_cons, List.map_nil]
  have e0 : A / 10 ^ (1 - 1 - 0) % 10 = (A) % 10 := by
    have h' : A < 10 := h
    simp only [show 1 - 1 - 0 = 0 from rfl, show (10 : Nat) ^ 0 = 1 from rfl] <;> omega
  rw [e0]
theorem dgs_2 {A : Nat} (h : A < 10 ^ 2) : dgs A 2 = [Int32.ofNat (48 + (A) / 10), Int32.ofNat (48 + (A) % 10)] := by
  simp only [dgs, List.range, List.range.loop, List.map_cons, List.map_nil]
  have e0 : A / 10 ^ (2 - 1 - 0) % 10 = (A) / 10 := by
    have h' : A < 100 := h
    simp only [show 2 - 1 - 0 = 1 from rfl, show (10 : Nat) ^ 1 = 10 from rfl] <;> omega
  have e1 : A / 10 ^ (2 - 1 - 1) % 10 = (A) % 10 := by
    have h' : A < 100 := h
    simp only [show 2 - 1 - 1 = 0 from rfl, show (10 : Nat) ^ 0 = 1 from rfl] <;> omega
  rw [e0, e1]
theorem dgs_3 {A : Nat} (h : A < 10 ^ 3) : dgs A 3 = [Int32.ofNat (48 + (A / 100) % 10), Int32.ofNat (48 + (A) % 100 / 10), Int32.ofNat (48 + (A) % 100 % 10)] := by
  simp only [dgs, List.range, List.range.loop, List.map_cons, List.map_nil]
  have e0 : A / 10 ^ (3 - 1 - 0) % 10 = (A / 100) % 10 := by
    have h' : A < 1000 := h
    simp only [show 3 - 1 - 0 = 2 from rfl, show (10 : Nat) ^ 2 = 100 from rfl] <;> omega
  have e1 : A / 10 ^ (3 - 1 - 1) % 10 = (A) % 100 / 10 := by
    have h' : A < 1000 := h
    simp only [show 3 - 1 - 1 = 1 from rfl, show (10 : Nat) ^ 1 = 10 from rfl] <;> omega
  have e2 : A / 10 ^ (3 - 1 - 2) % 10 = (A) % 100 % 10 := by
    have h' : A < 1000 := h
    simp only [show 3 - 1 - 2 = 0 from rfl, show (10 : Nat) ^ 0 = 1 from rfl] <;> omega
  rw [e0, e1, e2]
theorem dgs_4 {A : Nat} (h : A < 10 ^ 4) : dgs A 4 = [Int32.ofNat (48 + (A / 100) / 10), Int32.ofNat (48 + (A / 100) % 10), Int32.ofNat (48 + (A) % 100 / 10), Int32.ofNat (48 + (A) % 100 % 10)] := by
  simp only [dgs, List.range, List.range.loop, List.map_cons, List.map_nil]
  have e0 : A / 10 ^ (4 - 1 - 0) % 10 = (A / 100) / 10 := by
    have h' : A < 10000 := h
    simp only [show 4 - 1 - 0 = 3 from rfl, show (10 : Nat) ^ 3 = 1000 from rfl] <;> omega
  have e1 : A / 10 ^ (4 - 1 - 1) % 10 = (A / 100) % 10 := by
    have h' : A < 10000 := h
    simp only [show 4 - 1 - 1 = 2 from rfl, show (10 : Nat) ^ 2 = 100 from rfl] <;> omega
  have e2 : A / 10 ^ (4 - 1 - 2) % 10 = (A) % 100 / 10 := by
    have h' : A < 10000 := h
    simp only [show 4 - 1 - 2 = 1 from rfl, show (10 : Nat) ^ 1 = 10 from rfl] <;> omega
  have e3 : A / 10 ^ (4 - 1 - 3) % 10 = (A) % 100 % 10 := by
    have h' : A < 10000 := h
    simp only [show 4 - 1 - 3 = 0 from rfl, show (10 : Nat) ^ 0 = 1 from rfl] <;> omega
  rw [e0, e1, e2, e3]
theorem dgs_5 {A : Nat} (h : A < 10 ^ 5) : dgs A 5 = [Int32.ofNat (48 + (A / 100 / 100) % 10), Int32.ofNat (48 + (A / 100) % 100 / 10), Int32.ofNat (48 + (A / 100) % 100 % 10), Int32.ofNat (48 + (A) % 100 / 10), Int32.ofNat (48 + (A) % 100 % 10)] := by
  simp only [dgs, List.range, List.range.loop, List.map_cons, List.map_nil]
  have e0 : A / 10 ^ (5 - 1 - 0) % 10 = (A / 100 / 100) % 10 := by
    have h' : A < 100000 := h
    simp only [show 5 - 1 - 0 = 4 from rfl, show (10 : Nat) ^ 4 = 10000 from rfl] <;> omega
  have e1 : A / 10 ^ (5 - 1 - 1) % 10 = (A / 100) % 100 / 10 := by
    have h' : A < 100000 := h
    simp only [show 5 - 1 - 1 = 3 from rfl, show (10 : Nat) ^ 3 = 1000 from rfl] <;> omega
  have e2 : A / 10 ^ (5 - 1 - 2) % 10 = (A / 100) % 100 % 10 := by
    have h' : A < 100000 := h
    simp only [show 5 - 1 - 2 = 2 from rfl, show (10 : Nat) ^ 2 = 100 from rfl] <;> omega
  have e3 : A / 10 ^ (5 - 1 - 3) % 10 = (A) % 100 / 10 := by
    have h' : A < 100000 := h
    simp only [show 5 - 1 - 3 = 1 from rfl, show (10 : Nat) ^ 1 = 10 from rfl] <;> omega
  have e4 : A / 10 ^ (5 - 1 - 4) % 10 = (A) % 100 % 10 := by
    have h' : A < 100000 := h
    simp only [show 5 - 1 - 4 = 0 from rfl, show (10 : Nat) ^ 0 = 1 from rfl] <;> omega
  rw [e0, e1, e2, e3, e4]
theorem dgs_6 {A : Nat} (h : A < 10 ^ 6) : dgs A 6 = [Int32.ofNat (48 + (A / 100 / 100) / 10), Int32.ofNat (48 + (A / 100 / 100) % 10), Int32.ofNat (48 + (A / 100) % 100 / 10), Int32.ofNat (48 + (A / 100) % 100 % 10), Int32.ofNat (48 + (A) % 100 / 10), Int32.ofNat (48 + (A) % 100 % 10)] := by
  simp only [dgs, List.range, List.range.loop, List.map_cons, List.map_nil]
  have e0 : A / 10 ^ (6 - 1 - 0) % 10 = (A / 100 / 100) / 10 := by
    have h' : A < 1000000 := h
    simp only [show 6 - 1 - 0 = 5 from rfl, show (10 : Nat) ^ 5 = 100000 from rfl] <;> omega
  have e1 : A / 10 ^ (6 - 1 - 1) % 10 = (A / 100 / 100) % 10 := by
    have h' : A < 1000000 := h
    simp only [show 6 - 1 - 1 = 4 from rfl, show (10 : Nat) ^ 4 = 10000 from rfl] <;> omega
  have e2 : A / 10 ^ (6 - 1 - 2) % 10 = (A / 100) % 100 / 10 := by
    have h' : A < 1000000 := h
    simp only [show 6 - 1 - 2 = 3 from rfl, show (10 : Nat) ^ 3 = 1000 from rfl] <;> omega
  have e3 : A / 10 ^ (6 - 1 - 3) % 10 = (A / 100) % 100 % 10 := by
    have h' : A < 1000000 := h
    simp only [show 6 - 1 - 3 = 2 from rfl, show (10 : Nat) ^ 2 = 100 from rfl] <;> omega
  have e4 : A / 10 ^ (6 - 1 - 4) % 10 = (A) % 100 / 10 := by
    have h' : A < 1000000 := h
    simp only [show 6 - 1 - 4 = 1 from rfl, show (10 : Nat) ^ 1 = 10 from rfl] <;> omega
  have e5 : A / 10 ^ (6 - 1 - 5) % 10 = (A) % 100 % 10 := by
    have h' : A < 1000000 := h
    simp only [show 6 - 1 - 5 = 0 from rfl, show (10 : Nat) ^ 0 = 1 from rfl] <;> omega
  rw [e0, e1, e2, e3, e4, e5]
theorem dgs_7 {A : Nat} (h : A < 10 ^ 7) : dgs A 7 = [Int32.ofNat (48 + (A / 100 / 100 / 100) % 10), Int32.ofNat (48 + (A / 100 / 100) % 100 / 10), Int32.ofNat (48 + (A / 100 / 100) % 100 % 10), Int32.ofNat (48 + (A / 100) % 100 / 10), Int32.ofNat (48 + (A / 100) % 100 % 10), Int32.ofNat (48 + (A) % 100 / 10), Int32.ofNat (48 + (A) % 100 % 10)] := by
  simp only [dgs, List.range, List.range.loop, List.map_cons, List.map_nil]
  have e0 : A / 10 ^ (7 - 1 - 0) % 10 = (A / 100 / 100 / 100) % 10 := by
    have h' : A < 10000000 := h
    simp only [show 7 - 1 - 0 = 6 from rfl, show (10 : Nat) ^ 6 = 1000000 from rfl] <;> omega
  have e1 : A / 10 ^ (7 - 1 - 1) % 10 = (A / 100 / 100) % 100 / 10 := by
    have h' : A < 10000000 := h
    simp only [show 7 - 1 - 1 = 5 from rfl, show (10 : Nat) ^ 5 = 100000 from rfl] <;> omega
  have e2 : A / 10 ^ (7 - 1 - 2) % 10 = (A / 100 / 100) % 100 % 10 := by
    have h' : A < 10000000 := h
    simp only [show 7 - 1 - 2 = 4 from rfl, show (10 : Nat) ^ 4 = 10000 from rfl] <;> omega
  have e3 : A / 10 ^ (7 - 1 - 3) % 10 = (A / 100) % 100 / 10 := by
    have h' : A < 10000000 := h
    simp only [show 7 - 1 - 3 = 3 from rfl, show (10 : Nat) ^ 3 = 1000 from rfl] <;> omega
  have e4 : A / 10 ^ (7 - 1 - 4) % 10 = (A / 100) % 100 % 10 := by
    have h' : A < 10000000 := h
    simp only [show 7 - 1 - 4 = 2 from rfl, show (10 : Nat) ^ 2 = 100 from rfl] <;> omega
  have e5 : A / 10 ^ (7 - 1 - 5) % 10 = (A) % 100 / 10 := by
    have h' : A < 10000000 := h
    simp only [show 7 - 1 - 5 = 1 from rfl, show (10 : Nat) ^ 1 = 10 from rfl] <;> omega
  have e6 : A / 10 ^ (7 - 1 - 6) % 10 = (A) % 100 % 10 := by
    have h' : A < 10000000 := h
    simp only [show 7 - 1 - 6 = 0 from rfl, show (10 : Nat) ^ 0 = 1 from rfl] <;> omega
  rw [e0, e1, e2, e3, e4, e5, e6]
theorem dgs_8 {A : Nat} (h : A < 10 ^ 8) : dgs A 8 = [Int32.ofNat (48 + (A / 100 / 100 / 100) / 10), Int32.ofNat (48 + (A / 100 / 100 / 100) % 10), Int32.ofNat (48 + (A / 100 / 100) % 100 / 10), Int32.ofNat (48 + (A / 100 / 100) % 100 % 10), Int32.ofNat (48 + (A / 100) % 100 / 10), Int32.ofNat (48 + (A / 100) % 100 % 10), Int32.ofNat (48 + (A) % 100 / 10), Int32.ofNat (48 + (A) % 100 % 10)] := by
  simp only [dgs, List.range, List.range.loop, List.map_cons, List.map_nil]
  have e0 : A / 10 ^ (8 - 1 - 0) % 10 = (A / 100 / 100 / 100) / 10 := by
    have h' : A < 100000000 := h
    simp only [show 8 - 1 - 0 = 7 from rfl, show (10 : Nat) ^ 7 = 10000000 from rfl] <;> omega
  have e1 : A / 10 ^ (8 - 1 - 1) % 10 = (A / 100 / 100 / 100) % 10 := by
    have h' : A < 100000000 := h
    simp only [show 8 - 1 - 1 = 6 from rfl, show (10 : Nat) ^ 6 = 1000000 from rfl] <;> omega
  have e2 : A / 10 ^ (8 - 1 - 2) % 10 = (A / 100 / 100) % 100 / 10 := by
    have h' : A < 100000000 := h
    simp only [show 8 - 1 - 2 = 5 from rfl, show (10 : Nat) ^ 5 = 100000 from rfl] <;> omega
  have e3 : A / 10 ^ (8 - 1 - 3) % 10 = (A / 100 / 100) % 100 % 10 := by
    have h' : A < 100000000 := h
    simp only [show 8 - 1 - 3 = 4 from rfl, show (10 : Nat) ^ 4 = 10000 from rfl] <;> omega
  have e4 : A / 10 ^ (8 - 1 - 4) % 10 = (A / 100) % 100 / 10 := by
    have h' : A < 100000000 := h
    simp only [show 8 - 1 - 4 = 3 from rfl, show (10 : Nat) ^ 3 = 1000 from rfl] <;> omega
  have e5 : A / 10 ^ (8 - 1 - 5) % 10 = (A / 100) % 100 % 10 := by
    have h' : A < 100000000 := h
    simp only [show 8 - 1 - 5 = 2 from rfl, show (10 : Nat) ^ 2 = 100 from rfl] <;> omega
  have e6 : A / 10 ^ (8 - 1 - 6) % 10 = (A) % 100 / 10 := by
    have h' : A < 100000000 := h
    simp only [show 8 - 1 - 6 = 1 from rfl, show (10 : Nat) ^ 1 = 10 from rfl] <;> omega
  have e7 : A / 10 ^ (8 - 1 - 7) % 10 = (A) % 100 % 10 := by
    have h' : A < 100000000 := h
    simp only [show 8 - 1 - 7 = 0 from rfl, show (10 : Nat) ^ 0 = 1 from rfl] <;> omega
  rw [e0, e1, e2, e3, e4, e5, e6, e7]
theorem dgs_9 {A : Nat} (h : A < 10 ^ 9) : dgs A 9 = [Int32.ofNat (48 + (A / 100 / 100 / 100 / 100) % 10), Int32.ofNat (48 + (A / 100 / 100 / 100) % 100 / 10), Int32.ofNat (48 + (A / 100 / 100 / 100) % 100 % 10), Int32.ofNat (48 + (A / 100 / 100) % 100 / 10), Int32.ofNat (48 + (A / 100 / 100) % 100 % 10), Int32.ofNat (48 + (A / 100) % 100 / 10), Int32.ofNat (48 + (A / 100) % 100 % 10), Int32.ofNat (48 + (A) % 100 / 10), Int32.ofNat (48 + (A) % 100 % 10)] := by
  simp only [dgs, List.range, List.range.loop, List.map_cons, List.map_nil]
  have e0 : A / 10 ^ (9 - 1 - 0) % 10 = (A / 100 / 100 / 100 / 100) % 10 := by
    have h' : A < 1000000000 := h
    simp only [show 9 - 1 - 0 = 8 from rfl, show (10 : Nat) ^ 8 = 100000000 from rfl] <;> omega
  have e1 : A / 10 ^ (9 - 1 - 1) % 10 = (A / 100 / 100 / 100) % 100 / 10 := by
    have h' : A < 1000000000 := h
    simp only [show 9 - 1 - 1 = 7 from rfl, show (10 : Nat) ^ 7 = 10000000 from rfl] <;> omega
  have e2 : A / 10 ^ (9 - 1 - 2) % 10 = (A / 100 / 100 / 100) % 100 % 10 := by
    have h' : A < 1000000000 := h
    simp only [show 9 - 1 - 2 = 6 from rfl, show (10 : Nat) ^ 6 = 1000000 from rfl] <;> omega
  have e3 : A / 10 ^ (9 - 1 - 3) % 10 = (A / 100 / 100) % 100 / 10 := by
    have h' : A < 1000000000 := h
    simp only [show 9 - 1 - 3 = 5 from rfl, show (10 : Nat) ^ 5 = 100000 from rfl] <;> omega
  have e4 : A / 10 ^ (9 - 1 - 4) % 10 = (A / 100 / 100) % 100 % 10 := by
    have h' : A < 1000000000 := h
    simp only [show 9 - 1 - 4 = 4 from rfl, show (10 : Nat) ^ 4 = 10000 from rfl] <;> omega
  have e5 : A / 10 ^ (9 - 1 - 5) % 10 = (A / 100) % 100 / 10 := by
    have h' : A < 1000000000 := h
    simp only [show 9 - 1 - 5 = 3 from rfl, show (10 : Nat) ^ 3 = 1000 from rfl] <;> omega
  have e6 : A / 10 ^ (9 - 1 - 6) % 10 = (A / 100) % 100 % 10 := by
    have h' : A < 1000000000 := h
    simp only [show 9 - 1 - 6 = 2 from rfl, show (10 : Nat) ^ 2 = 100 from rfl] <;> omega
  have e7 : A / 10 ^ (9 - 1 - 7) % 10 = (A) % 100 / 10 := by
    have h' : A < 1000000000 := h
    simp only [show 9 - 1 - 7 = 1 from rfl, show (10 : Nat) ^ 1 = 10 from rfl] <;> omega
  have e8 : A / 10 ^ (9 - 1 - 8) % 10 = (A) % 100 % 10 := by
    have h' : A < 1000000000 := h
    simp only [show 9 - 1 - 8 = 0 from rfl, show (10 : Nat) ^ 0 = 1 from rfl] <;> omega
  rw [e0, e1, e2, e3, e4, e5, e6, e7, e8]
theorem dgs_10 {A : Nat} (h : A < 10 ^ 10) : dgs A 10 = [Int32.ofNat (48 + (A / 100 / 100 / 100 / 100) / 10), Int32.ofNat (48 + (A / 100 / 100 / 100 / 100) % 10), Int32.ofNat (48 + (A / 100 / 100 / 100) % 100 / 10), Int32.ofNat (48 + (A / 100 / 100 / 100) % 100 % 10), Int32.ofNat (48 + (A / 100 / 100) % 100 / 10), Int32.ofNat (48 + (A / 100 / 100) % 100 % 10), Int32.ofNat (48 + (A / 100) % 100 / 10), Int32.ofNat (48 + (A / 100) % 100 % 10), Int32.ofNat (48 + (A) % 100 / 10), Int32.ofNat (48 + (A) % 100 % 10)] := by
  simp only [dgs, List.range, List.range.loop, List.map_cons, List.map_nil]
  have e0 : A / 10 ^ (10 - 1 - 0) % 10 = (A / 100 / 100 / 100 / 100) / 10 := by
    have h' : A < 10000000000 := h
    simp only [show 10 - 1 - 0 = 9 from rfl, show (10 : Nat) ^ 9 = 1000000000 from rfl] <;> omega
  have e1 : A / 10 ^ (10 - 1 - 1) % 10 = (A / 100 / 100 / 100 / 100) % 10 := by
    have h' : A < 10000000000 := h
    simp only [show 10 - 1 - 1 = 8 from rfl, show (10 : Nat) ^ 8 = 100000000 from rfl] <;> omega
  have e2 : A / 10 ^ (10 - 1 - 2) % 10 = (A / 100 / 100 / 100) % 100 / 10 := by
    have h' : A < 10000000000 := h
    simp only [show 10 - 1 - 2 = 7 from rfl, show (10 : Nat) ^ 7 = 10000000 from rfl] <;> omega
  have e3 : A / 10 ^ (10 - 1 - 3) % 10 = (A / 100 / 100 / 100) % 100 % 10 := by
    have h' : A < 10000000000 := h
    simp only [show 10 - 1 - 3 = 6 from rfl, show (10 : Nat) ^ 6 = 1000000 from rfl] <;> omega
  have e4 : A / 10 ^ (10 - 1 - 4) % 10 = (A / 100 / 100) % 100 / 10 := by
    have h' : A < 10000000000 := h
    simp only [show 10 - 1 - 4 = 5 from rfl, show (10 : Nat) ^ 5 = 100000 from rfl] <;> omega
  have e5 : A / 10 ^ (10 - 1 - 5) % 10 = (A / 100 / 100) % 100 % 10 := by
    have h' : A < 10000000000 := h
    simp only [show 10 - 1 - 5 = 4 from rfl, show (10 : Nat) ^ 4 = 10000 from rfl] <;> omega
  have e6 : A / 10 ^ (10 - 1 - 6) % 10 = (A / 100) % 100 / 10 := by
    have h' : A < 10000000000 := h
    simp only [show 10 - 1 - 6 = 3 from rfl, show (10 : Nat) ^ 3 = 1000 from rfl] <;> omega
  have e7 : A / 10 ^ (10 - 1 - 7) % 10 = (A / 100) % 100 % 10 := by
    have h' : A < 10000000000 := h
    simp only [show 10 - 1 - 7 = 2 from rfl, show (10 : Nat) ^ 2 = 100 from rfl] <;> omega
  have e8 : A / 10 ^ (10 - 1 - 8) % 10 = (A) % 100 / 10 := by
    have h' : A < 10000000000 := h
    simp only [show 10 - 1 - 8 = 1 from rfl, show (10 : Nat) ^ 1 = 10 from rfl] <;> omega
  have e9 : A / 10 ^ (10 - 1 - 9) % 10 = (A) % 100 % 10 := by
    have h' : A < 10000000000 := h
    simp only [show 10 - 1 - 9 = 0 from rfl, show (10 : Nat) ^ 0 = 1 from rfl] <;> omega
  rw [e0, e1, e2, e3, e4, e5, e6, e7, e8, e9]
theorem ofn64 {n : Nat} (h : n < 9223372036854775808) : (Int64.ofNat n).toInt = n := by
  have := Int64.toInt_ofNat' (n := n)
  rw [this]
  exact bm64 (by omega) (by omega)
theorem div_long {A P : Nat} (hA : A ≤ 2147483648) (hP : 0 < P) (hP2 : P ≤ 1000000000) : (Int64.ofNat A / Int64.ofNat P) = Int64.ofNat (A / P) := by
  apply Int64.toInt_inj.mp
  have h1 := ofn64 (n := A) (by omega)
  have h2 := ofn64 (n := P) (by omega)
  have h3 : A / P ≤ A := Nat.div_le_self A P
  have h4 := ofn64 (n := A / P) (by omega)
  rw [Int64.toInt_div_of_ne_right _ _ (fun q => by have := congrArg Int64.toInt q; rw [h2] at this; have e : (-1 : Int64).toInt = -1 := rfl; omega), h1, h2, h4, Int.tdiv_eq_ediv_of_nonneg (by omega)]
  rfl
theorem rem_long {B : Nat} (hB : B ≤ 2147483648) : (Int64.ofNat B - Int64.ofNat B / (10 : Int64) * (10 : Int64)).toInt32 = Int32.ofNat (B % 10) := by
  have e : (10 : Int64) = Int64.ofNat 10 := rfl
  rw [e, div_long hB (by decide) (by decide)]
  apply Int32.toInt_inj.mp
  have h1 := ofn64 (n := B) (by omega)
  have h2 := ofn64 (n := B / 10) (by omega)
  have h3 := ofn64 (n := 10) (by decide)
  rw [Int64.toInt_toInt32, Int64.toInt_sub, Int64.toInt_mul, h1, h2, h3, bm64 (z := ((B / 10 : Nat) : Int) * ((10 : Nat) : Int)) (by omega) (by omega), bm64 (by omega) (by omega), bm32 (by omega) (by omega), ofn_toInt (by omega)]
  omega
theorem chr_small {m : Nat} (h : m < 128) : (Int32.ofNat m).toUInt32.toUInt16.toUInt32.toInt32 = Int32.ofNat m :=
  (by decide : ∀ k : Fin 128, (Int32.ofNat k.1).toUInt32.toUInt16.toUInt32.toInt32 = Int32.ofNat k.1) ⟨m, h⟩
theorem dig_long {A P : Nat} (hA : A ≤ 2147483648) (hP : 0 < P) (hP2 : P ≤ 1000000000) : ((48 : Int32) + ((Int64.ofNat A / Int64.ofNat P) - (Int64.ofNat A / Int64.ofNat P) / (10 : Int64) * (10 : Int64)).toInt32).toUInt32.toUInt16.toUInt32.toInt32 = Int32.ofNat (48 + A / P % 10) := by
  have h3 : A / P ≤ A := Nat.div_le_self A P
  rw [div_long hA hP hP2, rem_long (by omega), show (48 : Int32) = Int32.ofNat 48 from rfl, ← Int32.ofNat_add]
  exact chr_small (by omega)
theorem a_neg {x : Int32} (h : x < 0) : -x.toInt64 = Int64.ofNat (-x.toInt).toNat := by
  rw [Int32.lt_iff_toInt_lt] at h
  have e0 : (0 : Int32).toInt = 0 := rfl
  have := Int32.le_toInt x
  apply Int64.toInt_inj.mp
  rw [Int64.toInt_neg, Int32.toInt_toInt64, ofn64 (by omega), bm64 (by omega) (by omega)]
  omega
theorem a_pos {x : Int32} (h : ¬ x < 0) : x.toInt64 = Int64.ofNat x.toInt.toNat := by
  rw [Int32.lt_iff_toInt_lt] at h
  have e0 : (0 : Int32).toInt = 0 := rfl
  have := Int32.toInt_lt x
  apply Int64.toInt_inj.mp
  rw [Int32.toInt_toInt64, ofn64 (by omega)]
  omega
theorem lt_long {A P : Nat} (hA : A ≤ 2147483648) (hP : P ≤ 1000000000) : Int64.ofNat A < Int64.ofNat P ↔ A < P := by
  rw [Int64.lt_iff_toInt_lt, ofn64 (by omega), ofn64 (by omega)]; omega
theorem lt0_long {x : Int32} : x.toInt64 < 0 ↔ x < 0 := by
  rw [Int64.lt_iff_toInt_lt, Int32.lt_iff_toInt_lt, Int32.toInt_toInt64]
  have e0 : (0 : Int32).toInt = 0 := rfl
  have e1 : (0 : Int64).toInt = 0 := rfl
  omega

theorem dig_ge {A d k : Nat} (h : Dig A d) (hA : 10 ^ k ≤ A) : k < d := by
  obtain ⟨h1, h2, h3, h4⟩ := h
  apply Nat.lt_of_not_le
  intro q
  have : 10 ^ d ≤ 10 ^ k := Nat.pow_le_pow_right (by decide) q
  omega
theorem dig_le {A d k : Nat} (h : Dig A d) (hk : 1 ≤ k) (hA : A < 10 ^ k) : d ≤ k := by
  obtain ⟨h1, h2, h3, h4⟩ := h
  apply Nat.le_of_not_lt
  intro q
  have : 10 ^ k ≤ 10 ^ (d - 1) := Nat.pow_le_pow_right (by decide) (by omega)
  omega
theorem dig_ex {A : Nat} (h : A ≤ 2147483648) : ∃ d, Dig A d := by
  have key : ∀ k, 1 ≤ k → k ≤ 10 → A < 10 ^ k → ∃ d, Dig A d := by
    intro k
    induction k with
    | zero => intro h1; omega
    | succ k ih =>
      intro h1 h2 h3
      rcases Nat.lt_or_ge A (10 ^ k) with q | q
      · rcases Nat.eq_zero_or_pos k with r | r
        · subst r
          exact ⟨1, by decide, by decide, h3, Or.inl rfl⟩
        · exact ih r (by omega) q
      · exact ⟨k + 1, h1, h2, h3, Or.inr q⟩
  exact key 10 (by decide) (by decide) (by omega)
theorem cmp2_lem {i p : Int32} {B P : Nat} (h : i.toInt = -(B : Int)) (hp : p.toInt = -(P : Int)) : i < p ↔ P < B := by
  rw [Int32.lt_iff_toInt_lt, h, hp]; omega
def qs (sg A d : Nat) (tp : List Int32) : List Int32 := [113, 117, 101, 117, 101, 32] ++ (List.replicate sg 45 ++ (dgs A d ++ ([32, 111, 102, 32, 116, 111, 112, 105, 99, 32] ++ tp)))
theorem qs_len {sg A d : Nat} {tp : List Int32} : (qs sg A d tp).length = 6 + sg + d + 10 + tp.length := by simp [qs, dgs_len]; omega
theorem qs_lo {sg A d : Nat} {tp : List Int32} {j : Nat} {c : Int32} (hj : j < 6) (h : ([113, 117, 101, 117, 101, 32] : List Int32)[j]? = some c) : (qs sg A d tp)[j]? = some c := by
  unfold qs
  rw [List.getElem?_append_left (by simpa using hj)]; exact h
theorem qs_sg {A d : Nat} {tp : List Int32} : (qs 1 A d tp)[6]? = some 45 := by
  unfold qs
  rw [List.getElem?_append_right (by simp)]; rfl
theorem qs_dg {sg A d : Nat} {tp : List Int32} {j : Nat} (hj : j < d) : (qs sg A d tp)[6 + sg + j]? = some (Int32.ofNat (48 + A / 10 ^ (d - 1 - j) % 10)) := by
  unfold qs
  rw [List.getElem?_append_right (by simp; omega), List.getElem?_append_right (by simp; omega), List.getElem?_append_left (by simp [dgs_len]; omega)]
  rw [← dgs_at hj]
  congr 1
  simp; omega
theorem qs_of {sg A d : Nat} {tp : List Int32} {j : Nat} {c : Int32} (hj : j < 10) (h : ([32, 111, 102, 32, 116, 111, 112, 105, 99, 32] : List Int32)[j]? = some c) : (qs sg A d tp)[6 + sg + d + j]? = some c := by
  unfold qs
  rw [List.getElem?_append_right (by simp; omega), List.getElem?_append_right (by simp; omega), List.getElem?_append_right (by simp [dgs_len]; omega), List.getElem?_append_left (by simp [dgs_len]; omega), ← h]
  congr 1
  simp [dgs_len]; omega
theorem qs_tp {sg A d : Nat} {tp : List Int32} {j : Nat} {c : Int32} (h : tp[j]? = some c) : (qs sg A d tp)[6 + sg + d + 10 + j]? = some c := by
  unfold qs
  rw [List.getElem?_append_right (by simp; omega), List.getElem?_append_right (by simp; omega), List.getElem?_append_right (by simp [dgs_len]; omega), List.getElem?_append_right (by simp [dgs_len]; omega), ← h]
  congr 1
  simp [dgs_len]; omega
theorem qs_bd {sg A d : Nat} {tp : List Int32} (h : ∀ c ∈ tp, ¬ c < 0 ∧ ¬ (255 : Int32) < c) : ∀ c ∈ qs sg A d tp, ¬ c < 0 ∧ ¬ (255 : Int32) < c := by
  intro c hc
  unfold qs at hc
  rcases List.mem_append.mp hc with hc | hc
  · simp only [List.mem_cons, List.not_mem_nil, or_false] at hc
    rcases hc with rfl | rfl | rfl | rfl | rfl | rfl <;> decide
  rcases List.mem_append.mp hc with hc | hc
  · rw [(List.mem_replicate.mp hc).2]; decide
  rcases List.mem_append.mp hc with hc | hc
  · simp only [dgs, List.mem_map] at hc
    obtain ⟨j, -, rfl⟩ := hc
    exact ofn_rng (by omega)
  rcases List.mem_append.mp hc with hc | hc
  · simp only [List.mem_cons, List.not_mem_nil, or_false] at hc
    rcases hc with rfl | rfl | rfl | rfl | rfl | rfl | rfl | rfl | rfl | rfl <;> decide
  · exact h c hc
/-- the bytes of chars -/
def bys (cs : List Int32) : List Value := cs.map (fun c => .int c.toInt8.toInt32)
theorem bys_len {cs : List Int32} : (bys cs).length = cs.length := by simp [bys]
def Tk (vs : List Value) (cs : List Int32) : Prop := vs.take cs.length = bys cs
theorem tk_app {vs us : List Value} {cs ds : List Int32} {n m : Nat} (h : Tk vs cs) (hn : n = cs.length) (hu : us = bys ds) : Tk (vs.take n ++ us ++ vs.drop m) (cs ++ ds) := by
  unfold Tk at *
  subst hn hu
  rw [h]
  have e : (cs ++ ds).length = (bys cs ++ bys ds).length := by simp [bys]
  rw [e, List.take_left]
  simp [bys]
theorem tk_grow {vs zs : List Value} {cs : List Int32} (h : Tk vs cs) (hl : cs.length ≤ vs.length) : Tk (vs ++ zs) cs := by
  unfold Tk at *
  rw [List.take_append_of_le_length hl]; exact h
theorem tk_int {vs vs' r : List Value} {cs ds : List Int32} {n : Nat} (h : Tk vs cs) (hn : n = cs.length) (ht : vs'.take n = vs.take n) (hd : vs'.drop n = bys ds ++ r) : Tk vs' (cs ++ ds) := by
  subst hn
  unfold Tk at *
  rw [List.length_append, List.take_add, ht, h, hd, ← bys_len (cs := ds), List.take_left]
  simp [bys]
theorem tk_z {vs : List Value} : Tk vs [] := rfl
theorem digO_at {m : Nat} (h : m < 100) : digO.getD (Int32.ofNat m).toNatClampNeg (.int 0) = .int (Int32.ofNat (48 + m % 10)) := by
  rw [ofn_clamp (by omega)]; simp [digO, List.getD_eq_getElem?_getD, h]
theorem digT_at {m : Nat} (h : m < 100) : digT.getD (Int32.ofNat m).toNatClampNeg (.int 0) = .int (Int32.ofNat (48 + m / 10)) := by
  rw [ofn_clamp (by omega)]; simp [digT, List.getD_eq_getElem?_getD, h]
theorem dig_in {m : Nat} (h : m < 100) : ¬ Int32.ofNat m < 0 ∧ Int32.ofNat m < (100 : Int32) := ⟨ofn_nneg (by omega), (ofn_lt (n := m) (k := 100) (by omega) (by decide)).mpr h⟩
theorem ix_in {m k : Nat} (h : m < k) (hk : k ≤ 4000) : ¬ Int32.ofNat m < 0 ∧ Int32.ofNat m < Int32.ofNat k := ⟨ofn_nneg (by omega), (ofn_lt (by omega) (by omega)).mpr h⟩
theorem nar_small {m : Nat} (h : m < 128) : nar .byte (Int32.ofNat m) = Int32.ofNat m := b8_small h
theorem at_bys {cs : List Int32} {j : Nat} {c : Int32} (h : cs[j]? = some c) (hj : j < 2 ^ 31) : (bys cs).getD (Int32.ofNat j).toNatClampNeg (.int 0) = .int c.toInt8.toInt32 := by
  rw [ofn_clamp hj]; simp [bys, List.getD_eq_getElem?_getD, h]
theorem chr_back {c : Int32} (h : ¬ c < 0 ∧ ¬ (255 : Int32) < c) : (c.toInt8.toInt32 &&& (255 : Int32)).toUInt32.toUInt16.toUInt32.toInt32 = c := StrChars.chr8_lo8 h.1 h.2
theorem nar255 {c : Int32} (h : ¬ c < 0 ∧ ¬ (255 : Int32) < c) : narrow .char (.int c) = .int c := StrChars.narrow_ch h.1 (fun q => h.2 (Int32.lt_trans (by decide) q))
theorem ofn_sub {n k : Nat} (h : k ≤ n) : Int32.ofNat n - Int32.ofNat k = Int32.ofNat (n - k) := by
  obtain ⟨m, rfl⟩ : ∃ m, n = m + k := ⟨n - k, by omega⟩
  rw [← ofn_add m k, Int32.add_sub_cancel, Nat.add_sub_cancel]
theorem pow_at {k : Nat} (h : k ≤ 9) : [Value.long 1, .long 10, .long 100, .long 1000, .long 10000, .long 100000, .long 1000000, .long 10000000, .long 100000000, .long 1000000000].getD (Int32.ofNat k).toNatClampNeg (.long 0) = .long (Int64.ofNat (10 ^ k)) := by
  rw [ofn_clamp (by omega)]
  have : k = 0 ∨ k = 1 ∨ k = 2 ∨ k = 3 ∨ k = 4 ∨ k = 5 ∨ k = 6 ∨ k = 7 ∨ k = 8 ∨ k = 9 := by omega
  rcases this with rfl | rfl | rfl | rfl | rfl | rfl | rfl | rfl | rfl | rfl <;> rfl
theorem pow_le {k : Nat} (h : k ≤ 9) : 0 < 10 ^ k ∧ 10 ^ k ≤ 1000000000 := ⟨Nat.pow_pos (by decide), Nat.le_trans (Nat.pow_le_pow_right (by decide) h) (by decide)⟩
theorem and3 (x : Int32) : ∃ k : Nat, k ≤ 3 ∧ x &&& 3 = Int32.ofNat k := by
  have q := c_and x 3 (by decide)
  have e1 : (3 : Int32).toInt = 3 := rfl
  obtain ⟨k, hk, e⟩ := of_rng (x := x &&& 3) (n := 4) (by omega) (by omega) (by decide)
  exact ⟨k, by omega, e⟩
-- java/lang/String.coder:()B
def Q_coder (Z : State) (a : Addr) (h0 : Heap) (v : Option Value) (h : Heap) (L : List Loc) : Prop := v = some (.int 0) ∧ Fr Z.heap.size L ∧ h = h0
theorem ef_coder (m : MethodId) (a : Addr) : entryFrame m #[(.ref a)] 1 = mkF m 0 #[vr a] [] := by first | (simp [entryFrame, mkF, argsToLocals, Value.category, vi, vj, vr]; done) | rfl
theorem pn_0 : plainName "java/lang/String" = true := by first | (simp [plainName, overriddenIn]; done) | decide +kernel
theorem d_jdk_42_152_0 : decode jdk_42_method_152_code 0 = .ok (.getstatic 38, 3) := by decide +kernel
theorem d_jdk_42_152_3 : decode jdk_42_method_152_code 3 = .ok (.ifCond .eq 10, 3) := by decide +kernel
theorem d_jdk_42_152_6 : decode jdk_42_method_152_code 6 = .ok (.aload_n 0, 1) := by decide +kernel
theorem d_jdk_42_152_7 : decode jdk_42_method_152_code 7 = .ok (.getfield 15, 3) := by decide +kernel
theorem d_jdk_42_152_10 : decode jdk_42_method_152_code 10 = .ok (.goto 4, 3) := by decide +kernel
theorem d_jdk_42_152_14 : decode jdk_42_method_152_code 14 = .ok (.ireturn, 1) := by decide +kernel
set_option maxRecDepth 65536 in
set_option maxHeartbeats 40000000 in
theorem rm_coder (l : Launch) {Z : State} {a0 : Array Value} (hD : Wd Z a0) (a : Addr) {h0 : Heap} (O0 : Ext Z.heap h0) (F_coder_a : Fld Z h0 a "java/lang/String" "coder" "B" (.int 0)) :
    Con l Z (⟨"java/lang/String", "coder", "()B"⟩ : MethodName) jdk_42_method_152_code 1 (some .byte) [] ({ frames := 0, cells := 0, slots := 0, locals := 0 } : Room) #[(.ref a)] h0 (Q_coder Z a h0) := by
  refine Con.walk (plainFor_of_name pn_0) ?_
  intro p e s m below meth c T0 X0 hx hZ hby hml hown hnm hret hlk e0
  obtain ⟨hw, ⟨cz, S_CS, hcz⟩, ⟨sf, S_SF, hsf⟩, ⟨d1, d2, kd1, kd2, S_D1, S_D2, V_D1, V_D2⟩⟩ := id hD
  have N0 := Fr.nil Z.heap.size
  refine OEnds.cast (ef_coder m a) ?_
  obtain ⟨T1, X1, e1, st1⟩ := getS2 X0 hx hZ hown (host := "") (Or.inl (wq hw 82 rfl)) Via.refl e0 (S_CS.ext O0) (g := (mkF m 0 #[vr a] [])) rfl (hb hby d_jdk_42_152_0)
  refine OEnds.st st1 ?_
  refine OEnds.st (S' := T1.setTop (mkF m 7 #[vr a] [(.ref a)])) (fun _ k => ?_) ?_
  · refine XS.ifNo X1.here hx rfl (hb hby d_jdk_42_152_3) rfl ((if0 _ _).trans (feq hcz).1) ?_
    refine XS.aloadN X1.here hx rfl (hb hby d_jdk_42_152_6) rfl rfl ?_
    exact k
  obtain ⟨T2, X2, e2, st2⟩ := getF X1 hx hZ hown (host := "") (Or.inl (wq hw 21 rfl)) Via.refl e1 F_coder_a (g := (mkF m 7 #[vr a] [(.ref a)])) rfl rfl (hb hby d_jdk_42_152_7)
  refine OEnds.st st2 ?_
  refine OEnds.st (S' := T2.setTop (mkF m 14 #[vr a] [(.int 0)])) (fun _ k => ?_) ?_
  · refine XS.goto X2.here hx rfl (pc0 := 10) (pc' := 14) rfl (hb hby d_jdk_42_152_10) (by decide) (by decide) ?_
    exact k
  exact OEnds.ret X2 hx hret hlk (by decide) (Or.inl ⟨rfl, by simp, _, rfl⟩) (hb hby d_jdk_42_152_14) (by decide) (by decide) (by rw [e2]; exact ⟨rfl, N0, rfl⟩)
-- java/lang/String.length:()I
def Q_strLen (Z : State) (a : Addr) (t : Addr) (k : ClassId) (z : Int32) (us : List Value) (h0 : Heap) (v : Option Value) (h : Heap) (L : List Loc) : Prop := v = some (.int z) ∧ Fr Z.heap.size L ∧ h = h0
theorem ef_strLen (m : MethodId) (a : Addr) : entryFrame m #[(.ref a)] 1 = mkF m 0 #[vr a] [] := by first | (simp [entryFrame, mkF, argsToLocals, Value.category, vi, vj, vr]; done) | rfl
theorem d_jdk_42_54_0 : decode jdk_42_method_54_code 0 = .ok (.aload_n 0, 1) := by decide +kernel
theorem d_jdk_42_54_1 : decode jdk_42_method_54_code 1 = .ok (.getfield 9, 3) := by decide +kernel
theorem d_jdk_42_54_4 : decode jdk_42_method_54_code 4 = .ok (.arraylength, 1) := by decide +kernel
theorem d_jdk_42_54_5 : decode jdk_42_method_54_code 5 = .ok (.aload_n 0, 1) := by decide +kernel
theorem d_jdk_42_54_6 : decode jdk_42_method_54_code 6 = .ok (.invokevirtual 335, 3) := by decide +kernel
theorem pd_0 : parseMethodDescriptor "()B" = some ⟨[], some .byte⟩ := by decide +kernel
theorem d_jdk_42_54_9 : decode jdk_42_method_54_code 9 = .ok (.ishr, 1) := by decide +kernel
theorem d_jdk_42_54_10 : decode jdk_42_method_54_code 10 = .ok (.ireturn, 1) := by decide +kernel
set_option maxRecDepth 65536 in
set_option maxHeartbeats 40000000 in
theorem rm_strLen (l : Launch) {Z : State} {a0 : Array Value} (hD : Wd Z a0) (a : Addr) (t : Addr) (k : ClassId) (z : Int32) (us : List Value) {h0 : Heap} (O0 : Ext Z.heap h0) (E_a : Exa Z h0 a "java/lang/String") (F_coder_a : Fld Z h0 a "java/lang/String" "coder" "B" (.int 0)) (F_value_a : Fld Z h0 a "java/lang/String" "value" "[B" (.ref t)) (V_t : Arv Z h0 t k .byte z us (.int 0)) :
    Con l Z (⟨"java/lang/String", "length", "()I"⟩ : MethodName) jdk_42_method_54_code 1 (some .int) [] ({ frames := 1, cells := 0, slots := 0, locals := 13 } : Room) #[(.ref a)] h0 (Q_strLen Z a t k z us h0) := by
  refine Con.walk (plainFor_of_name pn_0) ?_
  intro p e s m below meth c T0 X0 hx hZ hby hml hown hnm hret hlk e0
  obtain ⟨hw, ⟨cz, S_CS, hcz⟩, ⟨sf, S_SF, hsf⟩, ⟨d1, d2, kd1, kd2, S_D1, S_D2, V_D1, V_D2⟩⟩ := id hD
  have N0 := Fr.nil Z.heap.size
  refine OEnds.cast (ef_strLen m a) ?_
  refine OEnds.st (S' := T0.setTop (mkF m 1 #[vr a] [(.ref a)])) (fun _ k => ?_) ?_
  · refine XS.aloadN X0.here hx rfl (hb hby d_jdk_42_54_0) rfl rfl ?_
    exact k
  obtain ⟨T1, X1, e1, st1⟩ := getF X0 hx hZ hown (host := "") (Or.inl (wq hw 20 rfl)) Via.refl e0 F_value_a (g := (mkF m 1 #[vr a] [(.ref a)])) rfl rfl (hb hby d_jdk_42_54_1)
  refine OEnds.st st1 ?_
  obtain ⟨cl_t_2, Ar_t_2, q_t_2, S_t_2, N_t_2, H_t_2, G_t_2⟩ := id V_t
  refine OEnds.st (S' := T1.setTop (mkF m 5 #[vr a] [(.int z)])) (fun tg kq9 => X1.arraylength hx (by rw [e1]; exact Ar_t_2.1) (State.isArrayOf_alike hZ.alike Ar_t_2.2.1) (g := (mkF m 4 #[vr a] [(.ref t)])) rfl rfl (hb hby d_jdk_42_54_4) tg (by rw [len_of S_t_2 N_t_2]; exact kq9)) ?_
  refine OEnds.st (S' := T1.setTop (mkF m 6 #[vr a] [(.ref a), (.int z)])) (fun _ k => ?_) ?_
  · refine XS.aloadN X1.here hx rfl (hb hby d_jdk_42_54_5) rfl rfl ?_
    exact k
  obtain ⟨_, T3, h3, L3, X3, e3, hQ3, st3⟩ := virtC X1 hx hZ (y := (⟨"java/lang/String", "coder", "()B"⟩ : MethodName)) (z := (⟨"java/lang/String", "coder", "()B"⟩ : MethodName)) hown (wq hw 77 rfl) (wq hw 78 rfl) (nf_sel (args := #[]) (mvT hZ (wq hw 75 rfl)) rfl) (wq hw 80 rfl) (wq hw 79 rfl) (by decide) (kc := 0) (ks := 0) (Con.sb (W := 1) (rm_coder l hD a O0 F_coder_a) hZ (wq hw 81 rfl) (wq hw 3 rfl) (by decide) (by decide)) e1 E_a (g := (mkF m 6 #[vr a] [(.ref a), (.int z)])) rfl (by rw [hml]; rfl) (argsL := []) (rest := [(.int z)]) (lenOf pd_0 rfl) rfl (by show 2 * 0 + _ ≤ _; exact Nat.le_of_eq rfl) (hb hby d_jdk_42_54_6) (by decide) (by decide)
  obtain ⟨rfl, Nq3, Hq3⟩ := hQ3
  refine OEnds.st st3 ?_
  replace N0 := Fr.app N0 Nq3
  replace e3 := e3.trans Hq3
  refine OEnds.st (S' := T3.setTop (mkF m 10 #[vr a] [(.int z)])) (fun _ k => ?_) ?_
  · refine XS.ishr X3.here hx rfl (hb hby d_jdk_42_54_9) rfl ?_
    rw [shr0 z]
    exact k
  exact OEnds.ret X3 hx hret hlk rfl (Or.inl ⟨rfl, by simp, _, rfl⟩) (hb hby d_jdk_42_54_10) (by decide) (by decide) (by rw [e3]; exact ⟨rfl, N0, rfl⟩)
-- java/lang/Record.<init>:()V
def Q_recInit (Z : State) (a : Addr) (h0 : Heap) (v : Option Value) (h : Heap) (L : List Loc) : Prop := v = none ∧ Fr Z.heap.size L ∧ h = h0
theorem ef_recInit (m : MethodId) (a : Addr) : entryFrame m #[(.ref a)] 1 = mkF m 0 #[vr a] [] := by first | (simp [entryFrame, mkF, argsToLocals, Value.category, vi, vj, vr]; done) | rfl
theorem pn_1 : plainName "java/lang/Record" = true := by first | (simp [plainName, overriddenIn]; done) | decide +kernel
theorem d_jdk_30_1_0 : decode jdk_30_method_1_code 0 = .ok (.aload_n 0, 1) := by decide +kernel
theorem d_jdk_30_1_1 : decode jdk_30_method_1_code 1 = .ok (.invokespecial 1, 3) := by decide +kernel
theorem d_jdk_30_1_4 : decode jdk_30_method_1_code 4 = .ok (.return_, 1) := by decide +kernel
set_option maxRecDepth 65536 in
set_option maxHeartbeats 40000000 in
theorem rm_recInit (l : Launch) {Z : State} {a0 : Array Value} (hD : Wd Z a0) (a : Addr) {h0 : Heap} (O0 : Ext Z.heap h0) :
    Con l Z (⟨"java/lang/Record", "<init>", "()V"⟩ : MethodName) jdk_30_method_1_code 1 none [] ({ frames := 1, cells := 0, slots := 0, locals := 12 } : Room) #[(.ref a)] h0 (Q_recInit Z a h0) := by
  refine Con.walk (plainFor_of_name pn_1) ?_
  intro p e s m below meth c T0 X0 hx hZ hby hml hown hnm hret hlk e0
  obtain ⟨hw, ⟨cz, S_CS, hcz⟩, ⟨sf, S_SF, hsf⟩, ⟨d1, d2, kd1, kd2, S_D1, S_D2, V_D1, V_D2⟩⟩ := id hD
  have N0 := Fr.nil Z.heap.size
  refine OEnds.cast (ef_recInit m a) ?_
  refine OEnds.st (S' := T0.setTop (mkF m 1 #[vr a] [(.ref a)])) (fun _ k => ?_) ?_
  · refine XS.aloadN X0.here hx rfl (hb hby d_jdk_30_1_0) rfl rfl ?_
    exact k
  obtain ⟨T1, X1, e1, st1⟩ := initO X0 hx hZ hown (wq hw 33 rfl) (wq hw 12 rfl) (wq hw 13 rfl) e0 (g := (mkF m 1 #[vr a] [(.ref a)])) rfl (by rw [hml]; rfl) rfl (hb hby d_jdk_30_1_1) (by decide) (W := 0) (by show 2 * 0 + _ ≤ _; exact Nat.le_of_eq rfl) (by decide)
  refine OEnds.st st1 ?_
  exact OEnds.retV X1 hx hret hlk (hb hby d_jdk_30_1_4) (by decide) (by decide) (by rw [e1]; exact ⟨rfl, N0, rfl⟩)
def z16 : List Value := List.replicate 16 (.int 0)
def z18 : List Value := List.replicate 18 (.int 0)
-- java/lang/AbstractStringBuilder.<init>:(I)V
def Q_asbInit (Z : State) (b : Addr) (h0 : Heap) (v : Option Value) (h : Heap) (L : List Loc) : Prop := ∃ (t : Addr) (k : ClassId), v = none ∧ Fr Z.heap.size L ∧ Keep h0 h [b] ∧ h0.size ≤ t ∧ Exa Z h b "java/lang/StringBuilder" ∧ Fld Z h b "java/lang/AbstractStringBuilder" "coder" "B" (.int 0) ∧ Fld Z h b "java/lang/AbstractStringBuilder" "count" "I" (.int 0) ∧ Fld Z h b "java/lang/AbstractStringBuilder" "value" "[B" (.ref t) ∧ Arv Z h t k .byte (Int32.ofNat 16) z16 (.int 0)
theorem ef_asbInit (m : MethodId) (b : Addr) : entryFrame m #[(.ref b), (.int 16)] 2 = mkF m 0 #[vr b, vi 16] [] := by first | (simp [entryFrame, mkF, argsToLocals, Value.category, vi, vj, vr]; done) | rfl
theorem pn_2 : plainName "java/lang/AbstractStringBuilder" = true := by first | (simp [plainName, overriddenIn]; done) | decide +kernel
theorem d_jdk_68_2_0 : decode jdk_68_method_2_code 0 = .ok (.aload_n 0, 1) := by decide +kernel
theorem d_jdk_68_2_1 : decode jdk_68_method_2_code 1 = .ok (.invokespecial 3, 3) := by decide +kernel
theorem d_jdk_68_2_4 : decode jdk_68_method_2_code 4 = .ok (.getstatic 18, 3) := by decide +kernel
theorem d_jdk_68_2_7 : decode jdk_68_method_2_code 7 = .ok (.ifCond .eq 18, 3) := by decide +kernel
theorem d_jdk_68_2_10 : decode jdk_68_method_2_code 10 = .ok (.aload_n 0, 1) := by decide +kernel
theorem d_jdk_68_2_11 : decode jdk_68_method_2_code 11 = .ok (.iload_n 1, 1) := by decide +kernel
theorem d_jdk_68_2_12 : decode jdk_68_method_2_code 12 = .ok (.newarray .byte, 2) := by decide +kernel
theorem d_jdk_68_2_14 : decode jdk_68_method_2_code 14 = .ok (.putfield 15, 3) := by decide +kernel
theorem d_jdk_68_2_17 : decode jdk_68_method_2_code 17 = .ok (.aload_n 0, 1) := by decide +kernel
theorem d_jdk_68_2_18 : decode jdk_68_method_2_code 18 = .ok (.iconst 0, 1) := by decide +kernel
theorem d_jdk_68_2_19 : decode jdk_68_method_2_code 19 = .ok (.putfield 22, 3) := by decide +kernel
theorem d_jdk_68_2_22 : decode jdk_68_method_2_code 22 = .ok (.goto 16, 3) := by decide +kernel
theorem d_jdk_68_2_38 : decode jdk_68_method_2_code 38 = .ok (.return_, 1) := by decide +kernel
set_option maxRecDepth 65536 in
set_option maxHeartbeats 40000000 in
theorem rm_asbInit (l : Launch) {Z : State} {a0 : Array Value} (hD : Wd Z a0) (b : Addr) {h0 : Heap} (O0 : Ext Z.heap h0) (E_b : Exa Z h0 b "java/lang/StringBuilder") (F_coder_b : Fld Z h0 b "java/lang/AbstractStringBuilder" "coder" "B" (.int 0)) (F_count_b : Fld Z h0 b "java/lang/AbstractStringBuilder" "count" "I" (.int 0)) (F_value_b : Fld Z h0 b "java/lang/AbstractStringBuilder" "value" "[B" .null) (ge_b : Z.heap.size ≤ b) :
    Con l Z (⟨"java/lang/AbstractStringBuilder", "<init>", "(I)V"⟩ : MethodName) jdk_68_method_2_code 2 none [] ({ frames := 1, cells := 1, slots := 16, locals := 12 } : Room) #[(.ref b), (.int 16)] h0 (Q_asbInit Z b h0) := by
  refine Con.walk (plainFor_of_name pn_2) ?_
  intro p e s m below meth c T0 X0 hx hZ hby hml hown hnm hret hlk e0
  obtain ⟨hw, ⟨cz, S_CS, hcz⟩, ⟨sf, S_SF, hsf⟩, ⟨d1, d2, kd1, kd2, S_D1, S_D2, V_D1, V_D2⟩⟩ := id hD
  have N0 := Fr.nil Z.heap.size
  have K0 : Keep h0 h0 [b] := Keep.refl _ _
  refine OEnds.cast (ef_asbInit m b) ?_
  refine OEnds.st (S' := T0.setTop (mkF m 1 #[vr b, vi 16] [(.ref b)])) (fun _ k => ?_) ?_
  · refine XS.aloadN X0.here hx rfl (hb hby d_jdk_68_2_0) rfl rfl ?_
    exact k
  obtain ⟨T1, X1, e1, st1⟩ := initO X0 hx hZ hown (wq hw 55 rfl) (wq hw 12 rfl) (wq hw 13 rfl) e0 (g := (mkF m 1 #[vr b, vi 16] [(.ref b)])) rfl (by rw [hml]; rfl) rfl (hb hby d_jdk_68_2_1) (by decide) (W := 0) (by show 2 * 0 + _ ≤ _; exact Nat.le_of_eq rfl) (by decide)
  refine OEnds.st st1 ?_
  obtain ⟨T2, X2, e2, st2⟩ := getS2 X1 hx hZ hown (host := "") (Or.inl (wq hw 56 rfl)) Via.refl e1 (S_CS.ext O0) (g := (mkF m 4 #[vr b, vi 16] [])) rfl (hb hby d_jdk_68_2_4)
  refine OEnds.st st2 ?_
  refine OEnds.st (S' := T2.setTop (mkF m 12 #[vr b, vi 16] [(.int 16), (.ref b)])) (fun _ k => ?_) ?_
  · refine XS.ifNo X2.here hx rfl (hb hby d_jdk_68_2_7) rfl ((if0 _ _).trans (feq hcz).1) ?_
    refine XS.aloadN X2.here hx rfl (hb hby d_jdk_68_2_10) rfl rfl ?_
    refine XS.iloadN X2.here hx rfl (hb hby d_jdk_68_2_11) rfl ?_
    exact k
  obtain ⟨T3, h3, k3, X3, e3, E3, A3, st3⟩ := newP X2 hx hZ (wq hw 15 rfl) e2 (g := (mkF m 12 #[vr b, vi 16] [(.int 16), (.ref b)])) rfl (hb hby d_jdk_68_2_12) rfl (by decide) (cap := 16) (by decide) (by decide) (by decide) (by decide)
  obtain ⟨b3, g3⟩ : ∃ z, z = h0.size := ⟨_, rfl⟩
  rw [← g3] at A3 st3
  refine OEnds.st st3 ?_
  have ne_b_b3 : b ≠ b3 := Nat.ne_of_lt (Nat.lt_of_lt_of_le E_b.lt (Nat.le_of_eq g3.symm))
  have ge_b3 : Z.heap.size ≤ b3 := Nat.le_trans O0.1 (Nat.le_of_eq g3.symm)
  have sz_b3 : h0.size ≤ b3 := Nat.le_trans K0.1 (Nat.le_of_eq g3.symm)
  replace E_b := E_b.ext E3
  replace F_coder_b := F_coder_b.ext E3
  replace F_count_b := F_count_b.ext E3
  replace F_value_b := F_value_b.ext E3
  replace O0 : Ext Z.heap h3 := ext_trans O0 E3
  replace K0 : Keep h0 h3 [b] := K0.ext E3
  have V_b3 : Arv Z h3 b3 k3 .byte (16 : Int32) [(.int 0), (.int 0), (.int 0), (.int 0), (.int 0), (.int 0), (.int 0), (.int 0), (.int 0), (.int 0), (.int 0), (.int 0), (.int 0), (.int 0), (.int 0), (.int 0)] (.int 0) := (Arv.new A3 (by decide)).pad (pad_rep [] (.int 0) 16)
  obtain ⟨T4, h4, X4, e4, W4, st4⟩ := putF X3 hx hZ hown (host := "") (Or.inl (wq hw 57 rfl)) Via.refl e3 F_value_b E_b (Or.inl (wq hw 58 rfl)) (wq hw 44 rfl) (ty := (.array .byte)) (by decide) rfl rfl (g := (mkF m 14 #[vr b, vi 16] [(.ref b3), (.ref b)])) rfl rfl (hb hby d_jdk_68_2_14)
  refine OEnds.st st4 ?_
  replace E_b := E_b.wr W4
  replace F_coder_b := F_coder_b.other W4 (Or.inr (slot_ne (Or.inl (wq hw 60 rfl)) (Or.inl (wq hw 58 rfl)) (by decide) (t := .byte) (t' := (.array .byte)) (by decide) (by decide)))
  replace F_count_b := F_count_b.other W4 (Or.inr (slot_ne (Or.inl (wq hw 84 rfl)) (Or.inl (wq hw 58 rfl)) (by decide) (t := .int) (t' := (.array .byte)) (by decide) (by decide)))
  replace F_value_b := F_value_b.same W4
  replace V_b3 := V_b3.other W4 (Ne.symm ne_b_b3)
  replace O0 : Ext Z.heap h4 := ext_wr O0 W4 ge_b
  replace N0 := Fr.snoc X4 N0 ge_b
  replace K0 : Keep h0 h4 [b] := K0.wr W4 (Or.inl (List.mem_of_getElem? (i := 0) rfl))
  refine OEnds.st (S' := T4.setTop (mkF m 19 #[vr b, vi 16] [(.int 0), (.ref b)])) (fun _ k => ?_) ?_
  · refine XS.aloadN X4.here hx rfl (hb hby d_jdk_68_2_17) rfl rfl ?_
    refine XS.iconst X4.here hx rfl (hb hby d_jdk_68_2_18) ?_
    exact k
  obtain ⟨T5, h5, X5, e5, W5, st5⟩ := putF X4 hx hZ hown (host := "") (Or.inl (wq hw 59 rfl)) Via.refl e4 F_coder_b E_b (Or.inl (wq hw 60 rfl)) (wq hw 44 rfl) (ty := .byte) (by decide) rfl rfl (g := (mkF m 19 #[vr b, vi 16] [(.int 0), (.ref b)])) rfl rfl (hb hby d_jdk_68_2_19)
  refine OEnds.st st5 ?_
  replace E_b := E_b.wr W5
  replace F_coder_b := F_coder_b.same W5
  replace F_count_b := F_count_b.other W5 (Or.inr (slot_ne (Or.inl (wq hw 84 rfl)) (Or.inl (wq hw 60 rfl)) (by decide) (t := .int) (t' := .byte) (by decide) (by decide)))
  replace F_value_b := F_value_b.other W5 (Or.inr (slot_ne (Or.inl (wq hw 58 rfl)) (Or.inl (wq hw 60 rfl)) (by decide) (t := (.array .byte)) (t' := .byte) (by decide) (by decide)))
  replace V_b3 := V_b3.other W5 (Ne.symm ne_b_b3)
  replace O0 : Ext Z.heap h5 := ext_wr O0 W5 ge_b
  replace N0 := Fr.snoc X5 N0 ge_b
  replace K0 : Keep h0 h5 [b] := K0.wr W5 (Or.inl (List.mem_of_getElem? (i := 0) rfl))
  refine OEnds.st (S' := T5.setTop (mkF m 38 #[vr b, vi 16] [])) (fun _ k => ?_) ?_
  · refine XS.goto X5.here hx rfl (pc0 := 22) (pc' := 38) rfl (hb hby d_jdk_68_2_22) (by decide) (by decide) ?_
    exact k
  replace V_b3 : Arv Z h5 b3 k3 .byte (Int32.ofNat 16) z16 (.int 0) := V_b3
  exact OEnds.retV X5 hx hret hlk (hb hby d_jdk_68_2_38) (by decide) (by decide) (by rw [e5]; exact ⟨b3, _, rfl, N0, K0, sz_b3, E_b, F_coder_b, F_count_b, F_value_b, V_b3⟩)
-- java/lang/StringBuilder.<init>:()V
def Q_sbInit (Z : State) (b : Addr) (h0 : Heap) (v : Option Value) (h : Heap) (L : List Loc) : Prop := ∃ (t : Addr) (k : ClassId), v = none ∧ Fr Z.heap.size L ∧ Keep h0 h [b] ∧ h0.size ≤ t ∧ Exa Z h b "java/lang/StringBuilder" ∧ Fld Z h b "java/lang/AbstractStringBuilder" "coder" "B" (.int 0) ∧ Fld Z h b "java/lang/AbstractStringBuilder" "count" "I" (.int 0) ∧ Fld Z h b "java/lang/AbstractStringBuilder" "value" "[B" (.ref t) ∧ Arv Z h t k .byte (Int32.ofNat 16) z16 (.int 0)
theorem ef_sbInit (m : MethodId) (b : Addr) : entryFrame m #[(.ref b)] 1 = mkF m 0 #[vr b] [] := by first | (simp [entryFrame, mkF, argsToLocals, Value.category, vi, vj, vr]; done) | rfl
theorem pn_3 : plainName "java/lang/StringBuilder" = true := by first | (simp [plainName, overriddenIn]; done) | decide +kernel
theorem d_jdk_67_1_0 : decode jdk_67_method_1_code 0 = .ok (.aload_n 0, 1) := by decide +kernel
theorem d_jdk_67_1_1 : decode jdk_67_method_1_code 1 = .ok (.bipush 16, 2) := by decide +kernel
theorem d_jdk_67_1_3 : decode jdk_67_method_1_code 3 = .ok (.invokespecial 1, 3) := by decide +kernel
theorem pd_1 : parseMethodDescriptor "(I)V" = some ⟨[.int], none⟩ := by decide +kernel
theorem d_jdk_67_1_6 : decode jdk_67_method_1_code 6 = .ok (.return_, 1) := by decide +kernel
set_option maxRecDepth 65536 in
set_option maxHeartbeats 40000000 in
theorem rm_sbInit (l : Launch) {Z : State} {a0 : Array Value} (hD : Wd Z a0) (b : Addr) {h0 : Heap} (O0 : Ext Z.heap h0) (E_b : Exa Z h0 b "java/lang/StringBuilder") (F_coder_b : Fld Z h0 b "java/lang/AbstractStringBuilder" "coder" "B" (.int 0)) (F_count_b : Fld Z h0 b "java/lang/AbstractStringBuilder" "count" "I" (.int 0)) (F_value_b : Fld Z h0 b "java/lang/AbstractStringBuilder" "value" "[B" .null) (ge_b : Z.heap.size ≤ b) :
    Con l Z (⟨"java/lang/StringBuilder", "<init>", "()V"⟩ : MethodName) jdk_67_method_1_code 1 none [] ({ frames := 2, cells := 1, slots := 16, locals := 25 } : Room) #[(.ref b)] h0 (Q_sbInit Z b h0) := by
  refine Con.walk (plainFor_of_name pn_3) ?_
  intro p e s m below meth c T0 X0 hx hZ hby hml hown hnm hret hlk e0
  obtain ⟨hw, ⟨cz, S_CS, hcz⟩, ⟨sf, S_SF, hsf⟩, ⟨d1, d2, kd1, kd2, S_D1, S_D2, V_D1, V_D2⟩⟩ := id hD
  have N0 := Fr.nil Z.heap.size
  have K0 : Keep h0 h0 [b] := Keep.refl _ _
  refine OEnds.cast (ef_sbInit m b) ?_
  refine OEnds.st (S' := T0.setTop (mkF m 3 #[vr b] [(.int 16), (.ref b)])) (fun _ k => ?_) ?_
  · refine XS.aloadN X0.here hx rfl (hb hby d_jdk_67_1_0) rfl rfl ?_
    refine XS.bipush X0.here hx rfl (hb hby d_jdk_67_1_1) ?_
    exact k
  obtain ⟨_, T1, h1, L1, X1, e1, hQ1, st1⟩ := specC X0 hx hZ rfl hown (wq hw 49 rfl) (wq hw 50 rfl) (wq hw 54 rfl) (by decide) (kc := 1) (ks := 16) (Con.sb (W := 0) (rm_asbInit l hD b O0 E_b F_coder_b F_count_b F_value_b ge_b) hZ (wq hw 54 rfl) (wq hw 53 rfl) (by decide) (by decide)) e0 (a := b) (g := (mkF m 3 #[vr b] [(.int 16), (.ref b)])) rfl (by rw [hml]; rfl) (argsL := [(.int 16)]) (rest := []) (lenOf pd_1 rfl) rfl (by show 2 * 0 + _ ≤ _; exact Nat.le_of_eq rfl) (hb hby d_jdk_67_1_3) (by decide) (by decide)
  obtain ⟨t1, k1, rfl, Nq1, Kq1, szq1, R1⟩ := hQ1
  refine OEnds.st st1 ?_
  replace N0 := Fr.app N0 Nq1
  have ne_b_t1 : b ≠ t1 := Nat.ne_of_lt (Nat.lt_of_lt_of_le E_b.lt szq1)
  have ge_t1 : Z.heap.size ≤ t1 := Nat.le_trans O0.1 szq1
  have sz_t1 : h0.size ≤ t1 := Nat.le_trans K0.1 szq1
  replace E_b := E_b.keep Kq1
  replace O0 : Ext Z.heap h1 := ext_keep O0 Kq1 (allS ge_b all0)
  replace K0 : Keep h0 h1 [b] := K0.trans Kq1 (allS (Or.inl (List.mem_of_getElem? (i := 0) rfl)) all0)
  exact OEnds.retV X1 hx hret hlk (hb hby d_jdk_67_1_6) (by decide) (by decide) (by rw [e1]; exact ⟨t1, k1, rfl, N0, K0, sz_t1, R1⟩)
-- java/lang/AbstractStringBuilder.ensureCapacityInternal:(I)V
def Q_ensureCap (Z : State) (b : Addr) (mn : Int32) (t : Addr) (k : ClassId) (cN n : Nat) (vs : List Value) (h0 : Heap) (v : Option Value) (h : Heap) (L : List Loc) : Prop := v = none ∧ Fr Z.heap.size L ∧ h = h0
theorem ef_ensureCap (m : MethodId) (b : Addr) (mn : Int32) : entryFrame m #[(.ref b), (.int mn)] 3 = mkF m 0 #[vr b, vi mn, .unset] [] := by first | (simp [entryFrame, mkF, argsToLocals, Value.category, vi, vj, vr]; done) | rfl
theorem d_jdk_68_9_0 : decode jdk_68_method_9_code 0 = .ok (.aload_n 0, 1) := by decide +kernel
theorem d_jdk_68_9_1 : decode jdk_68_method_9_code 1 = .ok (.getfield 15, 3) := by decide +kernel
theorem d_jdk_68_9_4 : decode jdk_68_method_9_code 4 = .ok (.arraylength, 1) := by decide +kernel
theorem d_jdk_68_9_5 : decode jdk_68_method_9_code 5 = .ok (.aload_n 0, 1) := by decide +kernel
theorem d_jdk_68_9_6 : decode jdk_68_method_9_code 6 = .ok (.getfield 22, 3) := by decide +kernel
theorem d_jdk_68_9_9 : decode jdk_68_method_9_code 9 = .ok (.ishr, 1) := by decide +kernel
theorem d_jdk_68_9_10 : decode jdk_68_method_9_code 10 = .ok (.istore_n 2, 1) := by decide +kernel
theorem d_jdk_68_9_11 : decode jdk_68_method_9_code 11 = .ok (.iload_n 1, 1) := by decide +kernel
theorem d_jdk_68_9_12 : decode jdk_68_method_9_code 12 = .ok (.iload_n 2, 1) := by decide +kernel
theorem d_jdk_68_9_13 : decode jdk_68_method_9_code 13 = .ok (.isub, 1) := by decide +kernel
theorem d_jdk_68_9_14 : decode jdk_68_method_9_code 14 = .ok (.ifCond .le 24, 3) := by decide +kernel
theorem d_jdk_68_9_38 : decode jdk_68_method_9_code 38 = .ok (.return_, 1) := by decide +kernel
set_option maxRecDepth 65536 in
set_option maxHeartbeats 40000000 in
theorem rm_ensureCap (l : Launch) {Z : State} {a0 : Array Value} (hD : Wd Z a0) (b : Addr) (mn : Int32) (t : Addr) (k : ClassId) (cN n : Nat) (vs : List Value) {h0 : Heap} (O0 : Ext Z.heap h0) (E_b : Exa Z h0 b "java/lang/StringBuilder") (F_coder_b : Fld Z h0 b "java/lang/AbstractStringBuilder" "coder" "B" (.int 0)) (F_count_b : Fld Z h0 b "java/lang/AbstractStringBuilder" "count" "I" (.int (Int32.ofNat n))) (F_value_b : Fld Z h0 b "java/lang/AbstractStringBuilder" "value" "[B" (.ref t)) (V_t : Arv Z h0 t k .byte (Int32.ofNat cN) vs (.int 0)) (hcap : ¬ (0 : Int32) < mn - Int32.ofNat cN) :
    Con l Z (⟨"java/lang/AbstractStringBuilder", "ensureCapacityInternal", "(I)V"⟩ : MethodName) jdk_68_method_9_code 3 none [] ({ frames := 0, cells := 0, slots := 0, locals := 0 } : Room) #[(.ref b), (.int mn)] h0 (Q_ensureCap Z b mn t k cN n vs h0) := by
  refine Con.walk (plainFor_of_name pn_2) ?_
  intro p e s m below meth c T0 X0 hx hZ hby hml hown hnm hret hlk e0
  obtain ⟨hw, ⟨cz, S_CS, hcz⟩, ⟨sf, S_SF, hsf⟩, ⟨d1, d2, kd1, kd2, S_D1, S_D2, V_D1, V_D2⟩⟩ := id hD
  have N0 := Fr.nil Z.heap.size
  refine OEnds.cast (ef_ensureCap m b mn) ?_
  refine OEnds.st (S' := T0.setTop (mkF m 1 #[vr b, vi mn, .unset] [(.ref b)])) (fun _ k => ?_) ?_
  · refine XS.aloadN X0.here hx rfl (hb hby d_jdk_68_9_0) rfl rfl ?_
    exact k
  obtain ⟨T1, X1, e1, st1⟩ := getF X0 hx hZ hown (host := "") (Or.inl (wq hw 57 rfl)) Via.refl e0 F_value_b (g := (mkF m 1 #[vr b, vi mn, .unset] [(.ref b)])) rfl rfl (hb hby d_jdk_68_9_1)
  refine OEnds.st st1 ?_
  obtain ⟨cl_t_2, Ar_t_2, q_t_2, S_t_2, N_t_2, H_t_2, G_t_2⟩ := id V_t
  refine OEnds.st (S' := T1.setTop (mkF m 5 #[vr b, vi mn, .unset] [(.int (Int32.ofNat cN))])) (fun tg kq9 => X1.arraylength hx (by rw [e1]; exact Ar_t_2.1) (State.isArrayOf_alike hZ.alike Ar_t_2.2.1) (g := (mkF m 4 #[vr b, vi mn, .unset] [(.ref t)])) rfl rfl (hb hby d_jdk_68_9_4) tg (by rw [len_of S_t_2 N_t_2]; exact kq9)) ?_
  refine OEnds.st (S' := T1.setTop (mkF m 6 #[vr b, vi mn, .unset] [(.ref b), (.int (Int32.ofNat cN))])) (fun _ k => ?_) ?_
  · refine XS.aloadN X1.here hx rfl (hb hby d_jdk_68_9_5) rfl rfl ?_
    exact k
  obtain ⟨T3, X3, e3, st3⟩ := getF X1 hx hZ hown (host := "") (Or.inl (wq hw 59 rfl)) Via.refl e1 F_coder_b (g := (mkF m 6 #[vr b, vi mn, .unset] [(.ref b), (.int (Int32.ofNat cN))])) rfl rfl (hb hby d_jdk_68_9_6)
  refine OEnds.st st3 ?_
  refine OEnds.st (S' := T3.setTop (mkF m 38 #[vr b, vi mn, vi (Int32.ofNat cN)] [])) (fun _ k => ?_) ?_
  · refine XS.ishr X3.here hx rfl (hb hby d_jdk_68_9_9) rfl ?_
    rw [shr0 (Int32.ofNat cN)]
    refine XS.istoreN X3.here hx rfl (hb hby d_jdk_68_9_10) rfl (l' := #[vr b, vi mn, vi (Int32.ofNat cN)]) rfl ?_
    refine XS.iloadN X3.here hx rfl (hb hby d_jdk_68_9_11) rfl ?_
    refine XS.iloadN X3.here hx rfl (hb hby d_jdk_68_9_12) rfl ?_
    show Steps p.tables e below (T3.setTop (mkF m 13 #[vr b, vi mn, vi (Int32.ofNat cN)] [(.int (Int32.ofNat cN)), (.int mn)])) _
    refine XS.isub X3.here hx rfl (hb hby d_jdk_68_9_13) rfl ?_
    refine XS.ifYes X3.here hx rfl (pc0 := 14) (pc' := 38) rfl (hb hby d_jdk_68_9_14) rfl ((if0 _ _).trans (flt hcap).2.2.2) (by decide) (by decide) ?_
    exact k
  exact OEnds.retV X3 hx hret hlk (hb hby d_jdk_68_9_38) (by decide) (by decide) (by rw [e3]; exact ⟨rfl, N0, rfl⟩)
-- java/lang/AbstractStringBuilder.isLatin1:()Z
def Q_isLat (Z : State) (b : Addr) (h0 : Heap) (v : Option Value) (h : Heap) (L : List Loc) : Prop := v = some (.int 1) ∧ Fr Z.heap.size L ∧ h = h0
theorem ef_isLat (m : MethodId) (b : Addr) : entryFrame m #[(.ref b)] 1 = mkF m 0 #[vr b] [] := by first | (simp [entryFrame, mkF, argsToLocals, Value.category, vi, vj, vr]; done) | rfl
theorem d_jdk_68_68_0 : decode jdk_68_method_68_code 0 = .ok (.getstatic 18, 3) := by decide +kernel
theorem d_jdk_68_68_3 : decode jdk_68_method_68_code 3 = .ok (.ifCond .eq 14, 3) := by decide +kernel
theorem d_jdk_68_68_6 : decode jdk_68_method_68_code 6 = .ok (.aload_n 0, 1) := by decide +kernel
theorem d_jdk_68_68_7 : decode jdk_68_method_68_code 7 = .ok (.getfield 22, 3) := by decide +kernel
theorem d_jdk_68_68_10 : decode jdk_68_method_68_code 10 = .ok (.ifCond .ne 7, 3) := by decide +kernel
theorem d_jdk_68_68_13 : decode jdk_68_method_68_code 13 = .ok (.iconst 1, 1) := by decide +kernel
theorem d_jdk_68_68_14 : decode jdk_68_method_68_code 14 = .ok (.goto 4, 3) := by decide +kernel
theorem d_jdk_68_68_18 : decode jdk_68_method_68_code 18 = .ok (.ireturn, 1) := by decide +kernel
set_option maxRecDepth 65536 in
set_option maxHeartbeats 40000000 in
theorem rm_isLat (l : Launch) {Z : State} {a0 : Array Value} (hD : Wd Z a0) (b : Addr) {h0 : Heap} (O0 : Ext Z.heap h0) (F_coder_b : Fld Z h0 b "java/lang/AbstractStringBuilder" "coder" "B" (.int 0)) :
    Con l Z (⟨"java/lang/AbstractStringBuilder", "isLatin1", "()Z"⟩ : MethodName) jdk_68_method_68_code 1 (some .boolean) [] ({ frames := 0, cells := 0, slots := 0, locals := 0 } : Room) #[(.ref b)] h0 (Q_isLat Z b h0) := by
  refine Con.walk (plainFor_of_name pn_2) ?_
  intro p e s m below meth c T0 X0 hx hZ hby hml hown hnm hret hlk e0
  obtain ⟨hw, ⟨cz, S_CS, hcz⟩, ⟨sf, S_SF, hsf⟩, ⟨d1, d2, kd1, kd2, S_D1, S_D2, V_D1, V_D2⟩⟩ := id hD
  have N0 := Fr.nil Z.heap.size
  refine OEnds.cast (ef_isLat m b) ?_
  obtain ⟨T1, X1, e1, st1⟩ := getS2 X0 hx hZ hown (host := "") (Or.inl (wq hw 56 rfl)) Via.refl e0 (S_CS.ext O0) (g := (mkF m 0 #[vr b] [])) rfl (hb hby d_jdk_68_68_0)
  refine OEnds.st st1 ?_
  refine OEnds.st (S' := T1.setTop (mkF m 7 #[vr b] [(.ref b)])) (fun _ k => ?_) ?_
  · refine XS.ifNo X1.here hx rfl (hb hby d_jdk_68_68_3) rfl ((if0 _ _).trans (feq hcz).1) ?_
    refine XS.aloadN X1.here hx rfl (hb hby d_jdk_68_68_6) rfl rfl ?_
    exact k
  obtain ⟨T2, X2, e2, st2⟩ := getF X1 hx hZ hown (host := "") (Or.inl (wq hw 59 rfl)) Via.refl e1 F_coder_b (g := (mkF m 7 #[vr b] [(.ref b)])) rfl rfl (hb hby d_jdk_68_68_7)
  refine OEnds.st st2 ?_
  refine OEnds.st (S' := T2.setTop (mkF m 18 #[vr b] [(.int 1)])) (fun _ k => ?_) ?_
  · refine XS.ifNo X2.here hx rfl (hb hby d_jdk_68_68_10) rfl ((if0 _ _).trans (teq (by decide)).2) ?_
    refine XS.iconst X2.here hx rfl (hb hby d_jdk_68_68_13) ?_
    refine XS.goto X2.here hx rfl (pc0 := 14) (pc' := 18) rfl (hb hby d_jdk_68_68_14) (by decide) (by decide) ?_
    exact k
  exact OEnds.ret X2 hx hret hlk (by decide) (Or.inl ⟨rfl, by simp, _, rfl⟩) (hb hby d_jdk_68_68_18) (by decide) (by decide) (by rw [e2]; exact ⟨rfl, N0, rfl⟩)
-- java/lang/AbstractStringBuilder.inflateIfNeededFor:(Ljava/lang/String;)V
def Q_inflate (Z : State) (b : Addr) (a : Addr) (h0 : Heap) (v : Option Value) (h : Heap) (L : List Loc) : Prop := v = none ∧ Fr Z.heap.size L ∧ h = h0
theorem ef_inflate (m : MethodId) (b : Addr) (a : Addr) : entryFrame m #[(.ref b), (.ref a)] 2 = mkF m 0 #[vr b, vr a] [] := by first | (simp [entryFrame, mkF, argsToLocals, Value.category, vi, vj, vr]; done) | rfl
theorem d_jdk_68_71_0 : decode jdk_68_method_71_code 0 = .ok (.getstatic 18, 3) := by decide +kernel
theorem d_jdk_68_71_3 : decode jdk_68_method_71_code 3 = .ok (.ifCond .eq 18, 3) := by decide +kernel
theorem d_jdk_68_71_6 : decode jdk_68_method_71_code 6 = .ok (.aload_n 0, 1) := by decide +kernel
theorem d_jdk_68_71_7 : decode jdk_68_method_71_code 7 = .ok (.getfield 22, 3) := by decide +kernel
theorem d_jdk_68_71_10 : decode jdk_68_method_71_code 10 = .ok (.aload_n 1, 1) := by decide +kernel
theorem d_jdk_68_71_11 : decode jdk_68_method_71_code 11 = .ok (.invokevirtual 40, 3) := by decide +kernel
theorem d_jdk_68_71_14 : decode jdk_68_method_71_code 14 = .ok (.if_icmp .eq 7, 3) := by decide +kernel
theorem d_jdk_68_71_21 : decode jdk_68_method_71_code 21 = .ok (.return_, 1) := by decide +kernel
set_option maxRecDepth 65536 in
set_option maxHeartbeats 40000000 in
theorem rm_inflate (l : Launch) {Z : State} {a0 : Array Value} (hD : Wd Z a0) (b : Addr) (a : Addr) {h0 : Heap} (O0 : Ext Z.heap h0) (F_coder_b : Fld Z h0 b "java/lang/AbstractStringBuilder" "coder" "B" (.int 0)) (E_a : Exa Z h0 a "java/lang/String") (F_coder_a : Fld Z h0 a "java/lang/String" "coder" "B" (.int 0)) :
    Con l Z (⟨"java/lang/AbstractStringBuilder", "inflateIfNeededFor", "(Ljava/lang/String;)V"⟩ : MethodName) jdk_68_method_71_code 2 none [] ({ frames := 1, cells := 0, slots := 0, locals := 13 } : Room) #[(.ref b), (.ref a)] h0 (Q_inflate Z b a h0) := by
  refine Con.walk (plainFor_of_name pn_2) ?_
  intro p e s m below meth c T0 X0 hx hZ hby hml hown hnm hret hlk e0
  obtain ⟨hw, ⟨cz, S_CS, hcz⟩, ⟨sf, S_SF, hsf⟩, ⟨d1, d2, kd1, kd2, S_D1, S_D2, V_D1, V_D2⟩⟩ := id hD
  have N0 := Fr.nil Z.heap.size
  refine OEnds.cast (ef_inflate m b a) ?_
  obtain ⟨T1, X1, e1, st1⟩ := getS2 X0 hx hZ hown (host := "") (Or.inl (wq hw 56 rfl)) Via.refl e0 (S_CS.ext O0) (g := (mkF m 0 #[vr b, vr a] [])) rfl (hb hby d_jdk_68_71_0)
  refine OEnds.st st1 ?_
  refine OEnds.st (S' := T1.setTop (mkF m 7 #[vr b, vr a] [(.ref b)])) (fun _ k => ?_) ?_
  · refine XS.ifNo X1.here hx rfl (hb hby d_jdk_68_71_3) rfl ((if0 _ _).trans (feq hcz).1) ?_
    refine XS.aloadN X1.here hx rfl (hb hby d_jdk_68_71_6) rfl rfl ?_
    exact k
  obtain ⟨T2, X2, e2, st2⟩ := getF X1 hx hZ hown (host := "") (Or.inl (wq hw 59 rfl)) Via.refl e1 F_coder_b (g := (mkF m 7 #[vr b, vr a] [(.ref b)])) rfl rfl (hb hby d_jdk_68_71_7)
  refine OEnds.st st2 ?_
  refine OEnds.st (S' := T2.setTop (mkF m 11 #[vr b, vr a] [(.ref a), (.int 0)])) (fun _ k => ?_) ?_
  · refine XS.aloadN X2.here hx rfl (hb hby d_jdk_68_71_10) rfl rfl ?_
    exact k
  obtain ⟨_, T3, h3, L3, X3, e3, hQ3, st3⟩ := virtC X2 hx hZ (y := (⟨"java/lang/String", "coder", "()B"⟩ : MethodName)) (z := (⟨"java/lang/String", "coder", "()B"⟩ : MethodName)) hown (wq hw 100 rfl) (wq hw 78 rfl) (nf_sel (args := #[]) (mvT hZ (wq hw 75 rfl)) rfl) (wq hw 80 rfl) (wq hw 79 rfl) (by decide) (kc := 0) (ks := 0) (Con.sb (W := 1) (rm_coder l hD a O0 F_coder_a) hZ (wq hw 81 rfl) (wq hw 3 rfl) (by decide) (by decide)) e2 E_a (g := (mkF m 11 #[vr b, vr a] [(.ref a), (.int 0)])) rfl (by rw [hml]; rfl) (argsL := []) (rest := [(.int 0)]) (lenOf pd_0 rfl) rfl (by show 2 * 0 + _ ≤ _; exact Nat.le_of_eq rfl) (hb hby d_jdk_68_71_11) (by decide) (by decide)
  obtain ⟨rfl, Nq3, Hq3⟩ := hQ3
  refine OEnds.st st3 ?_
  replace N0 := Fr.app N0 Nq3
  replace e3 := e3.trans Hq3
  refine OEnds.st (S' := T3.setTop (mkF m 21 #[vr b, vr a] [])) (fun _ k => ?_) ?_
  · refine XS.icmpYes X3.here hx rfl (pc0 := 14) (pc' := 21) rfl (hb hby d_jdk_68_71_14) rfl (teq (by decide)).1 (by decide) (by decide) ?_
    exact k
  exact OEnds.retV X3 hx hret hlk (hb hby d_jdk_68_71_21) (by decide) (by decide) (by rw [e3]; exact ⟨rfl, N0, rfl⟩)
-- java/lang/String.getBytes:([BIB)V
def Q_getBytes (Z : State) (a : Addr) (t : Addr) (k : ClassId) (cN n : Nat) (vs : List Value) (ts : Addr) (ks : ClassId) (sN : Nat) (us : List Value) (h0 : Heap) (v : Option Value) (h : Heap) (L : List Loc) : Prop := v = none ∧ Fr Z.heap.size L ∧ Keep h0 h [t] ∧ Arv Z h t k .byte (Int32.ofNat cN) (vs.take n ++ us ++ vs.drop (n + sN)) (.int 0)
theorem ef_getBytes (m : MethodId) (a : Addr) (t : Addr) : entryFrame m #[(.ref a), (.ref t), (.int (Int32.ofNat n)), (.int 0)] 4 = mkF m 0 #[vr a, vr t, vi (Int32.ofNat n), vi 0] [] := by first | (simp [entryFrame, mkF, argsToLocals, Value.category, vi, vj, vr]; done) | rfl
theorem d_jdk_42_147_0 : decode jdk_42_method_147_code 0 = .ok (.aload_n 0, 1) := by decide +kernel
theorem d_jdk_42_147_1 : decode jdk_42_method_147_code 1 = .ok (.invokevirtual 335, 3) := by decide +kernel
theorem d_jdk_42_147_4 : decode jdk_42_method_147_code 4 = .ok (.iload_n 3, 1) := by decide +kernel
theorem d_jdk_42_147_5 : decode jdk_42_method_147_code 5 = .ok (.if_icmp .ne 23, 3) := by decide +kernel
theorem d_jdk_42_147_8 : decode jdk_42_method_147_code 8 = .ok (.aload_n 0, 1) := by decide +kernel
theorem d_jdk_42_147_9 : decode jdk_42_method_147_code 9 = .ok (.getfield 9, 3) := by decide +kernel
theorem d_jdk_42_147_12 : decode jdk_42_method_147_code 12 = .ok (.iconst 0, 1) := by decide +kernel
theorem d_jdk_42_147_13 : decode jdk_42_method_147_code 13 = .ok (.aload_n 1, 1) := by decide +kernel
theorem d_jdk_42_147_14 : decode jdk_42_method_147_code 14 = .ok (.iload_n 2, 1) := by decide +kernel
theorem d_jdk_42_147_15 : decode jdk_42_method_147_code 15 = .ok (.iload_n 3, 1) := by decide +kernel
theorem d_jdk_42_147_16 : decode jdk_42_method_147_code 16 = .ok (.ishl, 1) := by decide +kernel
theorem d_jdk_42_147_17 : decode jdk_42_method_147_code 17 = .ok (.aload_n 0, 1) := by decide +kernel
theorem d_jdk_42_147_18 : decode jdk_42_method_147_code 18 = .ok (.getfield 9, 3) := by decide +kernel
theorem d_jdk_42_147_21 : decode jdk_42_method_147_code 21 = .ok (.arraylength, 1) := by decide +kernel
theorem d_jdk_42_147_22 : decode jdk_42_method_147_code 22 = .ok (.invokestatic 212, 3) := by decide +kernel
theorem d_jdk_42_147_25 : decode jdk_42_method_147_code 25 = .ok (.goto 18, 3) := by decide +kernel
theorem d_jdk_42_147_43 : decode jdk_42_method_147_code 43 = .ok (.return_, 1) := by decide +kernel
set_option maxRecDepth 65536 in
set_option maxHeartbeats 40000000 in
theorem rm_getBytes (l : Launch) {Z : State} {a0 : Array Value} (hD : Wd Z a0) (a : Addr) (t : Addr) (k : ClassId) (cN n : Nat) (vs : List Value) (ts : Addr) (ks : ClassId) (sN : Nat) (us : List Value) {h0 : Heap} (O0 : Ext Z.heap h0) (E_a : Exa Z h0 a "java/lang/String") (F_coder_a : Fld Z h0 a "java/lang/String" "coder" "B" (.int 0)) (F_value_a : Fld Z h0 a "java/lang/String" "value" "[B" (.ref ts)) (V_ts : Arv Z h0 ts ks .byte (Int32.ofNat sN) us (.int 0)) (V_t : Arv Z h0 t k .byte (Int32.ofNat cN) vs (.int 0)) (hvs : vs.length = cN) (hcN : cN ≤ 4000) (hus : us.length = sN) (hroom : n + sN ≤ cN) (ge_t : Z.heap.size ≤ t) :
    Con l Z (⟨"java/lang/String", "getBytes", "([BIB)V"⟩ : MethodName) jdk_42_method_147_code 4 none [] ({ frames := 1, cells := 0, slots := 0, locals := 18 } : Room) #[(.ref a), (.ref t), (.int (Int32.ofNat n)), (.int 0)] h0 (Q_getBytes Z a t k cN n vs ts ks sN us h0) := by
  refine Con.walk (plainFor_of_name pn_0) ?_
  intro p e s m below meth c T0 X0 hx hZ hby hml hown hnm hret hlk e0
  obtain ⟨hw, ⟨cz, S_CS, hcz⟩, ⟨sf, S_SF, hsf⟩, ⟨d1, d2, kd1, kd2, S_D1, S_D2, V_D1, V_D2⟩⟩ := id hD
  have N0 := Fr.nil Z.heap.size
  have K0 : Keep h0 h0 [t] := Keep.refl _ _
  refine OEnds.cast (ef_getBytes m a t) ?_
  have hn31 : n < 2 ^ 31 := by omega
  have hc31 : cN < 2 ^ 31 := by omega
  have hs31 : sN < 2 ^ 31 := by omega
  refine OEnds.st (S' := T0.setTop (mkF m 1 #[vr a, vr t, vi (Int32.ofNat n), vi 0] [(.ref a)])) (fun _ k => ?_) ?_
  · refine XS.aloadN X0.here hx rfl (hb hby d_jdk_42_147_0) rfl rfl ?_
    exact k
  obtain ⟨_, T1, h1, L1, X1, e1, hQ1, st1⟩ := virtC X0 hx hZ (y := (⟨"java/lang/String", "coder", "()B"⟩ : MethodName)) (z := (⟨"java/lang/String", "coder", "()B"⟩ : MethodName)) hown (wq hw 77 rfl) (wq hw 78 rfl) (nf_sel (args := #[]) (mvT hZ (wq hw 75 rfl)) rfl) (wq hw 80 rfl) (wq hw 79 rfl) (by decide) (kc := 0) (ks := 0) (Con.sb (W := 0) (rm_coder l hD a O0 F_coder_a) hZ (wq hw 81 rfl) (wq hw 3 rfl) (by decide) (by decide)) e0 E_a (g := (mkF m 1 #[vr a, vr t, vi (Int32.ofNat n), vi 0] [(.ref a)])) rfl (by rw [hml]; rfl) (argsL := []) (rest := []) (lenOf pd_0 rfl) rfl (by show 2 * 0 + _ ≤ _; exact Nat.le_of_eq rfl) (hb hby d_jdk_42_147_1) (by decide) (by decide)
  obtain ⟨rfl, Nq1, Hq1⟩ := hQ1
  refine OEnds.st st1 ?_
  replace N0 := Fr.app N0 Nq1
  replace e1 := e1.trans Hq1
  refine OEnds.st (S' := T1.setTop (mkF m 9 #[vr a, vr t, vi (Int32.ofNat n), vi 0] [(.ref a)])) (fun _ k => ?_) ?_
  · refine XS.iloadN X1.here hx rfl (hb hby d_jdk_42_147_4) rfl ?_
    refine XS.icmpNo X1.here hx rfl (hb hby d_jdk_42_147_5) rfl (teq (by decide)).2 ?_
    refine XS.aloadN X1.here hx rfl (hb hby d_jdk_42_147_8) rfl rfl ?_
    exact k
  obtain ⟨T2, X2, e2, st2⟩ := getF X1 hx hZ hown (host := "") (Or.inl (wq hw 20 rfl)) Via.refl e1 F_value_a (g := (mkF m 9 #[vr a, vr t, vi (Int32.ofNat n), vi 0] [(.ref a)])) rfl rfl (hb hby d_jdk_42_147_9)
  refine OEnds.st st2 ?_
  refine OEnds.st (S' := T2.setTop (mkF m 18 #[vr a, vr t, vi (Int32.ofNat n), vi 0] [(.ref a), (.int (Int32.ofNat n)), (.ref t), (.int 0), (.ref ts)])) (fun _ k => ?_) ?_
  · refine XS.iconst X2.here hx rfl (hb hby d_jdk_42_147_12) ?_
    refine XS.aloadN X2.here hx rfl (hb hby d_jdk_42_147_13) rfl rfl ?_
    refine XS.iloadN X2.here hx rfl (hb hby d_jdk_42_147_14) rfl ?_
    refine XS.iloadN X2.here hx rfl (hb hby d_jdk_42_147_15) rfl ?_
    show Steps p.tables e below (T2.setTop (mkF m 16 #[vr a, vr t, vi (Int32.ofNat n), vi 0] [(.int 0), (.int (Int32.ofNat n)), (.ref t), (.int 0), (.ref ts)])) _
    refine XS.ishl X2.here hx rfl (hb hby d_jdk_42_147_16) rfl ?_
    rw [shl0 (Int32.ofNat n)]
    refine XS.aloadN X2.here hx rfl (hb hby d_jdk_42_147_17) rfl rfl ?_
    exact k
  obtain ⟨T3, X3, e3, st3⟩ := getF X2 hx hZ hown (host := "") (Or.inl (wq hw 20 rfl)) Via.refl e2 F_value_a (g := (mkF m 18 #[vr a, vr t, vi (Int32.ofNat n), vi 0] [(.ref a), (.int (Int32.ofNat n)), (.ref t), (.int 0), (.ref ts)])) rfl rfl (hb hby d_jdk_42_147_18)
  refine OEnds.st st3 ?_
  obtain ⟨cl_ts_4, Ar_ts_4, q_ts_4, S_ts_4, N_ts_4, H_ts_4, G_ts_4⟩ := id V_ts
  refine OEnds.st (S' := T3.setTop (mkF m 22 #[vr a, vr t, vi (Int32.ofNat n), vi 0] [(.int (Int32.ofNat sN)), (.int (Int32.ofNat n)), (.ref t), (.int 0), (.ref ts)])) (fun tg kq9 => X3.arraylength hx (by rw [e3]; exact Ar_ts_4.1) (State.isArrayOf_alike hZ.alike Ar_ts_4.2.1) (g := (mkF m 21 #[vr a, vr t, vi (Int32.ofNat n), vi 0] [(.ref ts), (.int (Int32.ofNat n)), (.ref t), (.int 0), (.ref ts)])) rfl rfl (hb hby d_jdk_42_147_21) tg (by rw [len_of S_ts_4 N_ts_4]; exact kq9)) ?_
  obtain ⟨T5, h5, L5, X5, e5, Nw5, Kq5, V5, st5⟩ := cpA X3 hx hZ hown (wq hw 106 rfl) (wq hw 109 rfl) (wq hw 107 rfl) (wq hw 108 rfl) e3 V_ts V_t (us := _) (Or.inl ⟨rfl, rfl⟩) (by decide) (ofn_nneg hn31) (ofn_nneg hs31) (by rw [ofn_clamp hs31]; exact Nat.le_of_eq (Nat.zero_add _)) (by rw [ofn_clamp hn31, ofn_clamp hs31, ofn_clamp hc31]; exact hroom) rfl (by rw [ofn_clamp hn31, ofn_clamp hs31, hvs]; exact hroom) N0 ge_t (g := (mkF m 22 #[vr a, vr t, vi (Int32.ofNat n), vi 0] [(.int (Int32.ofNat sN)), (.int (Int32.ofNat n)), (.ref t), (.int 0), (.ref ts)])) rfl (by rw [hml]; rfl) rfl (hb hby d_jdk_42_147_22) (by decide) (W := 0) (by show 2 * 0 + _ ≤ _; exact Nat.le_of_eq rfl) (by decide)
  replace N0 := Nw5
  refine OEnds.st st5 ?_
  have ne_a_t : a ≠ t := ne_arv E_a (wq hw 2 rfl) V_t
  replace E_a := E_a.keep Kq5
  replace F_coder_a := F_coder_a.keep Kq5 (ninS ne_a_t nin0)
  replace F_value_a := F_value_a.keep Kq5 (ninS ne_a_t nin0)
  replace O0 : Ext Z.heap h5 := ext_keep O0 Kq5 (allS ge_t all0)
  replace K0 : Keep h0 h5 [t] := K0.trans Kq5 (allS (Or.inl (List.mem_of_getElem? (i := 0) rfl)) all0)
  have V_t_5 : Arv Z h5 t k .byte (Int32.ofNat cN) (vs.take n ++ us ++ vs.drop (n + sN)) (.int 0) := by rw [← (cp_list hus hn31 hs31)]; exact V5
  refine OEnds.st (S' := T5.setTop (mkF m 43 #[vr a, vr t, vi (Int32.ofNat n), vi 0] [])) (fun _ k => ?_) ?_
  · refine XS.goto X5.here hx rfl (pc0 := 25) (pc' := 43) rfl (hb hby d_jdk_42_147_25) (by decide) (by decide) ?_
    exact k
  exact OEnds.retV X5 hx hret hlk (hb hby d_jdk_42_147_43) (by decide) (by decide) (by rw [e5]; exact ⟨rfl, N0, K0, V_t_5⟩)
-- java/lang/AbstractStringBuilder.putStringAt:(ILjava/lang/String;)V
def Q_putStr (Z : State) (b : Addr) (a : Addr) (t : Addr) (k : ClassId) (cN n : Nat) (vs : List Value) (ts : Addr) (ks : ClassId) (sN : Nat) (us : List Value) (h0 : Heap) (v : Option Value) (h : Heap) (L : List Loc) : Prop := v = none ∧ Fr Z.heap.size L ∧ Keep h0 h [t] ∧ Exa Z h b "java/lang/StringBuilder" ∧ Fld Z h b "java/lang/AbstractStringBuilder" "coder" "B" (.int 0) ∧ Fld Z h b "java/lang/AbstractStringBuilder" "count" "I" (.int (Int32.ofNat n)) ∧ Fld Z h b "java/lang/AbstractStringBuilder" "value" "[B" (.ref t) ∧ Arv Z h t k .byte (Int32.ofNat cN) (vs.take n ++ us ++ vs.drop (n + sN)) (.int 0)
theorem ef_putStr (m : MethodId) (b : Addr) (a : Addr) : entryFrame m #[(.ref b), (.int (Int32.ofNat n)), (.ref a)] 3 = mkF m 0 #[vr b, vi (Int32.ofNat n), vr a] [] := by first | (simp [entryFrame, mkF, argsToLocals, Value.category, vi, vj, vr]; done) | rfl
theorem d_jdk_68_73_0 : decode jdk_68_method_73_code 0 = .ok (.aload_n 0, 1) := by decide +kernel
theorem d_jdk_68_73_1 : decode jdk_68_method_73_code 1 = .ok (.aload_n 2, 1) := by decide +kernel
theorem d_jdk_68_73_2 : decode jdk_68_method_73_code 2 = .ok (.invokevirtual 397, 3) := by decide +kernel
theorem pd_2 : parseMethodDescriptor "(Ljava/lang/String;)V" = some ⟨[(.object "java/lang/String")], none⟩ := by decide +kernel
theorem d_jdk_68_73_5 : decode jdk_68_method_73_code 5 = .ok (.aload_n 2, 1) := by decide +kernel
theorem d_jdk_68_73_6 : decode jdk_68_method_73_code 6 = .ok (.aload_n 0, 1) := by decide +kernel
theorem d_jdk_68_73_7 : decode jdk_68_method_73_code 7 = .ok (.getfield 15, 3) := by decide +kernel
theorem d_jdk_68_73_10 : decode jdk_68_method_73_code 10 = .ok (.iload_n 1, 1) := by decide +kernel
theorem d_jdk_68_73_11 : decode jdk_68_method_73_code 11 = .ok (.aload_n 0, 1) := by decide +kernel
theorem d_jdk_68_73_12 : decode jdk_68_method_73_code 12 = .ok (.getfield 22, 3) := by decide +kernel
theorem d_jdk_68_73_15 : decode jdk_68_method_73_code 15 = .ok (.invokevirtual 399, 3) := by decide +kernel
theorem pd_3 : parseMethodDescriptor "([BIB)V" = some ⟨[(.array .byte), .int, .byte], none⟩ := by decide +kernel
theorem d_jdk_68_73_18 : decode jdk_68_method_73_code 18 = .ok (.return_, 1) := by decide +kernel
set_option maxRecDepth 65536 in
set_option maxHeartbeats 40000000 in
theorem rm_putStr (l : Launch) {Z : State} {a0 : Array Value} (hD : Wd Z a0) (b : Addr) (a : Addr) (t : Addr) (k : ClassId) (cN n : Nat) (vs : List Value) (ts : Addr) (ks : ClassId) (sN : Nat) (us : List Value) {h0 : Heap} (O0 : Ext Z.heap h0) (E_b : Exa Z h0 b "java/lang/StringBuilder") (F_coder_b : Fld Z h0 b "java/lang/AbstractStringBuilder" "coder" "B" (.int 0)) (F_count_b : Fld Z h0 b "java/lang/AbstractStringBuilder" "count" "I" (.int (Int32.ofNat n))) (F_value_b : Fld Z h0 b "java/lang/AbstractStringBuilder" "value" "[B" (.ref t)) (V_t : Arv Z h0 t k .byte (Int32.ofNat cN) vs (.int 0)) (E_a : Exa Z h0 a "java/lang/String") (F_coder_a : Fld Z h0 a "java/lang/String" "coder" "B" (.int 0)) (F_value_a : Fld Z h0 a "java/lang/String" "value" "[B" (.ref ts)) (V_ts : Arv Z h0 ts ks .byte (Int32.ofNat sN) us (.int 0)) (hvs : vs.length = cN) (hcN : cN ≤ 4000) (hus : us.length = sN) (hroom : n + sN ≤ cN) (ge_b : Z.heap.size ≤ b) (ge_t : Z.heap.size ≤ t) (ne_b_t : b ≠ t) :
    Con l Z (⟨"java/lang/AbstractStringBuilder", "putStringAt", "(ILjava/lang/String;)V"⟩ : MethodName) jdk_68_method_73_code 3 none [] ({ frames := 2, cells := 0, slots := 0, locals := 33 } : Room) #[(.ref b), (.int (Int32.ofNat n)), (.ref a)] h0 (Q_putStr Z b a t k cN n vs ts ks sN us h0) := by
  refine Con.walk (plainFor_of_name pn_2) ?_
  intro p e s m below meth c T0 X0 hx hZ hby hml hown hnm hret hlk e0
  obtain ⟨hw, ⟨cz, S_CS, hcz⟩, ⟨sf, S_SF, hsf⟩, ⟨d1, d2, kd1, kd2, S_D1, S_D2, V_D1, V_D2⟩⟩ := id hD
  have N0 := Fr.nil Z.heap.size
  have K0 : Keep h0 h0 [t] := Keep.refl _ _
  refine OEnds.cast (ef_putStr m b a) ?_
  refine OEnds.st (S' := T0.setTop (mkF m 2 #[vr b, vi (Int32.ofNat n), vr a] [(.ref a), (.ref b)])) (fun _ k => ?_) ?_
  · refine XS.aloadN X0.here hx rfl (hb hby d_jdk_68_73_0) rfl rfl ?_
    refine XS.aloadN X0.here hx rfl (hb hby d_jdk_68_73_1) rfl rfl ?_
    exact k
  obtain ⟨_, T1, h1, L1, X1, e1, hQ1, st1⟩ := virtC X0 hx hZ (y := (⟨"java/lang/AbstractStringBuilder", "inflateIfNeededFor", "(Ljava/lang/String;)V"⟩ : MethodName)) (z := (⟨"java/lang/AbstractStringBuilder", "inflateIfNeededFor", "(Ljava/lang/String;)V"⟩ : MethodName)) hown (wq hw 95 rfl) (decl_of (wq hw 96 rfl) (wq hw 99 rfl)) (nf_sel (args := #[]) (mvT hZ (wq hw 88 rfl)) rfl) (wq hw 98 rfl) (wq hw 96 rfl) (by decide) (kc := 0) (ks := 0) (Con.sb (W := 0) (rm_inflate l hD b a O0 F_coder_b E_a F_coder_a) hZ (wq hw 99 rfl) (wq hw 53 rfl) (by decide) (by decide)) e0 E_b (g := (mkF m 2 #[vr b, vi (Int32.ofNat n), vr a] [(.ref a), (.ref b)])) rfl (by rw [hml]; rfl) (argsL := [(.ref a)]) (rest := []) (lenOf pd_2 rfl) rfl (by show 2 * 0 + _ ≤ _; exact Nat.le_of_eq rfl) (hb hby d_jdk_68_73_2) (by decide) (by decide)
  obtain ⟨rfl, Nq1, Hq1⟩ := hQ1
  refine OEnds.st st1 ?_
  replace N0 := Fr.app N0 Nq1
  replace e1 := e1.trans Hq1
  refine OEnds.st (S' := T1.setTop (mkF m 7 #[vr b, vi (Int32.ofNat n), vr a] [(.ref b), (.ref a)])) (fun _ k => ?_) ?_
  · refine XS.aloadN X1.here hx rfl (hb hby d_jdk_68_73_5) rfl rfl ?_
    refine XS.aloadN X1.here hx rfl (hb hby d_jdk_68_73_6) rfl rfl ?_
    exact k
  obtain ⟨T2, X2, e2, st2⟩ := getF X1 hx hZ hown (host := "") (Or.inl (wq hw 57 rfl)) Via.refl e1 F_value_b (g := (mkF m 7 #[vr b, vi (Int32.ofNat n), vr a] [(.ref b), (.ref a)])) rfl rfl (hb hby d_jdk_68_73_7)
  refine OEnds.st st2 ?_
  refine OEnds.st (S' := T2.setTop (mkF m 12 #[vr b, vi (Int32.ofNat n), vr a] [(.ref b), (.int (Int32.ofNat n)), (.ref t), (.ref a)])) (fun _ k => ?_) ?_
  · refine XS.iloadN X2.here hx rfl (hb hby d_jdk_68_73_10) rfl ?_
    refine XS.aloadN X2.here hx rfl (hb hby d_jdk_68_73_11) rfl rfl ?_
    exact k
  obtain ⟨T3, X3, e3, st3⟩ := getF X2 hx hZ hown (host := "") (Or.inl (wq hw 59 rfl)) Via.refl e2 F_coder_b (g := (mkF m 12 #[vr b, vi (Int32.ofNat n), vr a] [(.ref b), (.int (Int32.ofNat n)), (.ref t), (.ref a)])) rfl rfl (hb hby d_jdk_68_73_12)
  refine OEnds.st st3 ?_
  obtain ⟨_, T4, h4, L4, X4, e4, hQ4, st4⟩ := virtC X3 hx hZ (y := (⟨"java/lang/String", "getBytes", "([BIB)V"⟩ : MethodName)) (z := (⟨"java/lang/String", "getBytes", "([BIB)V"⟩ : MethodName)) hown (wq hw 101 rfl) (wq hw 102 rfl) (nf_sel (args := #[]) (mvT hZ (wq hw 75 rfl)) rfl) (wq hw 104 rfl) (wq hw 103 rfl) (by decide) (kc := 0) (ks := 0) (Con.sb (W := 0) (rm_getBytes l hD a t k cN n vs ts ks sN us O0 E_a F_coder_a F_value_a V_ts V_t hvs hcN hus hroom ge_t) hZ (wq hw 105 rfl) (wq hw 3 rfl) (by decide) (by decide)) e3 E_a (g := (mkF m 15 #[vr b, vi (Int32.ofNat n), vr a] [(.int 0), (.int (Int32.ofNat n)), (.ref t), (.ref a)])) rfl (by rw [hml]; rfl) (argsL := [(.ref t), (.int (Int32.ofNat n)), (.int 0)]) (rest := []) (lenOf pd_3 rfl) rfl (by show 2 * 0 + _ ≤ _; exact Nat.le_of_eq rfl) (hb hby d_jdk_68_73_15) (by decide) (by decide)
  obtain ⟨rfl, Nq4, Kq4, V4⟩ := hQ4
  refine OEnds.st st4 ?_
  replace N0 := Fr.app N0 Nq4
  have ne_a_t : a ≠ t := ne_arv E_a (wq hw 2 rfl) V_t
  replace E_b := E_b.keep Kq4
  replace F_coder_b := F_coder_b.keep Kq4 (ninS ne_b_t nin0)
  replace F_count_b := F_count_b.keep Kq4 (ninS ne_b_t nin0)
  replace F_value_b := F_value_b.keep Kq4 (ninS ne_b_t nin0)
  replace E_a := E_a.keep Kq4
  replace F_coder_a := F_coder_a.keep Kq4 (ninS ne_a_t nin0)
  replace F_value_a := F_value_a.keep Kq4 (ninS ne_a_t nin0)
  replace O0 : Ext Z.heap h4 := ext_keep O0 Kq4 (allS ge_t all0)
  replace K0 : Keep h0 h4 [t] := K0.trans Kq4 (allS (Or.inl (List.mem_of_getElem? (i := 0) rfl)) all0)
  exact OEnds.retV X4 hx hret hlk (hb hby d_jdk_68_73_18) (by decide) (by decide) (by rw [e4]; exact ⟨rfl, N0, K0, E_b, F_coder_b, F_count_b, F_value_b, V4⟩)
-- java/lang/AbstractStringBuilder.append:(Ljava/lang/String;)Ljava/lang/AbstractStringBuilder;
def Q_asbAppS (Z : State) (b : Addr) (a : Addr) (t : Addr) (k : ClassId) (cN n : Nat) (vs : List Value) (ts : Addr) (ks : ClassId) (sN : Nat) (us : List Value) (h0 : Heap) (v : Option Value) (h : Heap) (L : List Loc) : Prop := v = some (.ref b) ∧ Fr Z.heap.size L ∧ Keep h0 h [b, t] ∧ Exa Z h b "java/lang/StringBuilder" ∧ Fld Z h b "java/lang/AbstractStringBuilder" "coder" "B" (.int 0) ∧ Fld Z h b "java/lang/AbstractStringBuilder" "count" "I" (.int (Int32.ofNat (n + sN))) ∧ Fld Z h b "java/lang/AbstractStringBuilder" "value" "[B" (.ref t) ∧ Arv Z h t k .byte (Int32.ofNat cN) (vs.take n ++ us ++ vs.drop (n + sN)) (.int 0)
theorem ef_asbAppS (m : MethodId) (b : Addr) (a : Addr) : entryFrame m #[(.ref b), (.ref a)] 3 = mkF m 0 #[vr b, vr a, .unset] [] := by first | (simp [entryFrame, mkF, argsToLocals, Value.category, vi, vj, vr]; done) | rfl
theorem d_jdk_68_22_0 : decode jdk_68_method_22_code 0 = .ok (.aload_n 1, 1) := by decide +kernel
theorem d_jdk_68_22_1 : decode jdk_68_method_22_code 1 = .ok (.ifnonnull 8, 3) := by decide +kernel
theorem d_jdk_68_22_9 : decode jdk_68_method_22_code 9 = .ok (.aload_n 1, 1) := by decide +kernel
theorem d_jdk_68_22_10 : decode jdk_68_method_22_code 10 = .ok (.invokevirtual 32, 3) := by decide +kernel
theorem pd_4 : parseMethodDescriptor "()I" = some ⟨[], some .int⟩ := by decide +kernel
theorem d_jdk_68_22_13 : decode jdk_68_method_22_code 13 = .ok (.istore_n 2, 1) := by decide +kernel
theorem d_jdk_68_22_14 : decode jdk_68_method_22_code 14 = .ok (.aload_n 0, 1) := by decide +kernel
theorem d_jdk_68_22_15 : decode jdk_68_method_22_code 15 = .ok (.aload_n 0, 1) := by decide +kernel
theorem d_jdk_68_22_16 : decode jdk_68_method_22_code 16 = .ok (.getfield 79, 3) := by decide +kernel
theorem d_jdk_68_22_19 : decode jdk_68_method_22_code 19 = .ok (.iload_n 2, 1) := by decide +kernel
theorem d_jdk_68_22_20 : decode jdk_68_method_22_code 20 = .ok (.iadd, 1) := by decide +kernel
theorem d_jdk_68_22_21 : decode jdk_68_method_22_code 21 = .ok (.invokevirtual 100, 3) := by decide +kernel
theorem d_jdk_68_22_24 : decode jdk_68_method_22_code 24 = .ok (.aload_n 0, 1) := by decide +kernel
theorem d_jdk_68_22_25 : decode jdk_68_method_22_code 25 = .ok (.aload_n 0, 1) := by decide +kernel
theorem d_jdk_68_22_26 : decode jdk_68_method_22_code 26 = .ok (.getfield 79, 3) := by decide +kernel
theorem d_jdk_68_22_29 : decode jdk_68_method_22_code 29 = .ok (.aload_n 1, 1) := by decide +kernel
theorem d_jdk_68_22_30 : decode jdk_68_method_22_code 30 = .ok (.invokevirtual 208, 3) := by decide +kernel
theorem pd_5 : parseMethodDescriptor "(ILjava/lang/String;)V" = some ⟨[.int, (.object "java/lang/String")], none⟩ := by decide +kernel
theorem d_jdk_68_22_33 : decode jdk_68_method_22_code 33 = .ok (.aload_n 0, 1) := by decide +kernel
theorem d_jdk_68_22_34 : decode jdk_68_method_22_code 34 = .ok (.dup, 1) := by decide +kernel
theorem d_jdk_68_22_35 : decode jdk_68_method_22_code 35 = .ok (.getfield 79, 3) := by decide +kernel
theorem d_jdk_68_22_38 : decode jdk_68_method_22_code 38 = .ok (.iload_n 2, 1) := by decide +kernel
theorem d_jdk_68_22_39 : decode jdk_68_method_22_code 39 = .ok (.iadd, 1) := by decide +kernel
theorem d_jdk_68_22_40 : decode jdk_68_method_22_code 40 = .ok (.putfield 79, 3) := by decide +kernel
theorem d_jdk_68_22_43 : decode jdk_68_method_22_code 43 = .ok (.aload_n 0, 1) := by decide +kernel
theorem d_jdk_68_22_44 : decode jdk_68_method_22_code 44 = .ok (.areturn, 1) := by decide +kernel
set_option maxRecDepth 65536 in
set_option maxHeartbeats 40000000 in
theorem rm_asbAppS (l : Launch) {Z : State} {a0 : Array Value} (hD : Wd Z a0) (b : Addr) (a : Addr) (t : Addr) (k : ClassId) (cN n : Nat) (vs : List Value) (ts : Addr) (ks : ClassId) (sN : Nat) (us : List Value) {h0 : Heap} (O0 : Ext Z.heap h0) (E_b : Exa Z h0 b "java/lang/StringBuilder") (F_coder_b : Fld Z h0 b "java/lang/AbstractStringBuilder" "coder" "B" (.int 0)) (F_count_b : Fld Z h0 b "java/lang/AbstractStringBuilder" "count" "I" (.int (Int32.ofNat n))) (F_value_b : Fld Z h0 b "java/lang/AbstractStringBuilder" "value" "[B" (.ref t)) (V_t : Arv Z h0 t k .byte (Int32.ofNat cN) vs (.int 0)) (E_a : Exa Z h0 a "java/lang/String") (F_coder_a : Fld Z h0 a "java/lang/String" "coder" "B" (.int 0)) (F_value_a : Fld Z h0 a "java/lang/String" "value" "[B" (.ref ts)) (V_ts : Arv Z h0 ts ks .byte (Int32.ofNat sN) us (.int 0)) (hvs : vs.length = cN) (hcN : cN ≤ 4000) (hus : us.length = sN) (hroom : n + sN ≤ cN) (ge_b : Z.heap.size ≤ b) (ge_t : Z.heap.size ≤ t) (ne_b_t : b ≠ t) :
    Con l Z (⟨"java/lang/AbstractStringBuilder", "append", "(Ljava/lang/String;)Ljava/lang/AbstractStringBuilder;"⟩ : MethodName) jdk_68_method_22_code 3 (some (.object "java/lang/AbstractStringBuilder")) [] ({ frames := 3, cells := 0, slots := 0, locals := 47 } : Room) #[(.ref b), (.ref a)] h0 (Q_asbAppS Z b a t k cN n vs ts ks sN us h0) := by
  refine Con.walk (plainFor_of_name pn_2) ?_
  intro p e s m below meth c T0 X0 hx hZ hby hml hown hnm hret hlk e0
  obtain ⟨hw, ⟨cz, S_CS, hcz⟩, ⟨sf, S_SF, hsf⟩, ⟨d1, d2, kd1, kd2, S_D1, S_D2, V_D1, V_D2⟩⟩ := id hD
  have N0 := Fr.nil Z.heap.size
  have K0 : Keep h0 h0 [b, t] := Keep.refl _ _
  refine OEnds.cast (ef_asbAppS m b a) ?_
  have hn31 : n < 2 ^ 31 := by omega
  have hc31 : cN < 2 ^ 31 := by omega
  refine OEnds.st (S' := T0.setTop (mkF m 10 #[vr b, vr a, .unset] [(.ref a)])) (fun _ k => ?_) ?_
  · refine XS.aloadN X0.here hx rfl (hb hby d_jdk_68_22_0) rfl rfl ?_
    refine XS.ifnonnullYes X0.here hx rfl (pc0 := 1) (pc' := 9) rfl (hb hby d_jdk_68_22_1) rfl (by decide) (by decide) ?_
    refine XS.aloadN X0.here hx rfl (hb hby d_jdk_68_22_9) rfl rfl ?_
    exact k
  obtain ⟨_, T1, h1, L1, X1, e1, hQ1, st1⟩ := virtC X0 hx hZ (y := (⟨"java/lang/String", "length", "()I"⟩ : MethodName)) (z := (⟨"java/lang/String", "length", "()I"⟩ : MethodName)) hown (wq hw 72 rfl) (wq hw 73 rfl) (nf_sel (args := #[]) (mvT hZ (wq hw 75 rfl)) rfl) (wq hw 75 rfl) (wq hw 74 rfl) (by decide) (kc := 0) (ks := 0) (Con.sb (W := 0) (rm_strLen l hD a ts ks (Int32.ofNat sN) us O0 E_a F_coder_a F_value_a V_ts) hZ (wq hw 76 rfl) (wq hw 3 rfl) (by decide) (by decide)) e0 E_a (g := (mkF m 10 #[vr b, vr a, .unset] [(.ref a)])) rfl (by rw [hml]; rfl) (argsL := []) (rest := []) (lenOf pd_4 rfl) rfl (by show 2 * 0 + _ ≤ _; exact Nat.le_of_eq rfl) (hb hby d_jdk_68_22_10) (by decide) (by decide)
  obtain ⟨rfl, Nq1, Hq1⟩ := hQ1
  refine OEnds.st st1 ?_
  replace N0 := Fr.app N0 Nq1
  replace e1 := e1.trans Hq1
  refine OEnds.st (S' := T1.setTop (mkF m 16 #[vr b, vr a, vi (Int32.ofNat sN)] [(.ref b), (.ref b)])) (fun _ k => ?_) ?_
  · refine XS.istoreN X1.here hx rfl (hb hby d_jdk_68_22_13) rfl (l' := #[vr b, vr a, vi (Int32.ofNat sN)]) rfl ?_
    refine XS.aloadN X1.here hx rfl (hb hby d_jdk_68_22_14) rfl rfl ?_
    refine XS.aloadN X1.here hx rfl (hb hby d_jdk_68_22_15) rfl rfl ?_
    exact k
  obtain ⟨T2, X2, e2, st2⟩ := getF X1 hx hZ hown (host := "") (Or.inl (wq hw 83 rfl)) Via.refl e1 F_count_b (g := (mkF m 16 #[vr b, vr a, vi (Int32.ofNat sN)] [(.ref b), (.ref b)])) rfl rfl (hb hby d_jdk_68_22_16)
  refine OEnds.st st2 ?_
  refine OEnds.st (S' := T2.setTop (mkF m 21 #[vr b, vr a, vi (Int32.ofNat sN)] [(.int ((Int32.ofNat n) + (Int32.ofNat sN))), (.ref b)])) (fun _ k => ?_) ?_
  · refine XS.iloadN X2.here hx rfl (hb hby d_jdk_68_22_19) rfl ?_
    refine XS.iadd X2.here hx rfl (hb hby d_jdk_68_22_20) rfl ?_
    exact k
  rw [ofn_add n sN]
  obtain ⟨_, T3, h3, L3, X3, e3, hQ3, st3⟩ := virtC X2 hx hZ (y := (⟨"java/lang/AbstractStringBuilder", "ensureCapacityInternal", "(I)V"⟩ : MethodName)) (z := (⟨"java/lang/AbstractStringBuilder", "ensureCapacityInternal", "(I)V"⟩ : MethodName)) hown (wq hw 85 rfl) (decl_of (wq hw 86 rfl) (wq hw 89 rfl)) (nf_sel (args := #[]) (mvT hZ (wq hw 88 rfl)) rfl) (wq hw 88 rfl) (wq hw 86 rfl) (by decide) (kc := 0) (ks := 0) (Con.sb (W := 0) (rm_ensureCap l hD b (Int32.ofNat (n + sN)) t k cN n vs O0 E_b F_coder_b F_count_b F_value_b V_t (ofn_sub_le hroom hc31)) hZ (wq hw 89 rfl) (wq hw 53 rfl) (by decide) (by decide)) e2 E_b (g := (mkF m 21 #[vr b, vr a, vi (Int32.ofNat sN)] [(.int (Int32.ofNat (n + sN))), (.ref b)])) rfl (by rw [hml]; rfl) (argsL := [(.int (Int32.ofNat (n + sN)))]) (rest := []) (lenOf pd_1 rfl) rfl (by show 2 * 0 + _ ≤ _; exact Nat.le_of_eq rfl) (hb hby d_jdk_68_22_21) (by decide) (by decide)
  obtain ⟨rfl, Nq3, Hq3⟩ := hQ3
  refine OEnds.st st3 ?_
  replace N0 := Fr.app N0 Nq3
  replace e3 := e3.trans Hq3
  refine OEnds.st (S' := T3.setTop (mkF m 26 #[vr b, vr a, vi (Int32.ofNat sN)] [(.ref b), (.ref b)])) (fun _ k => ?_) ?_
  · refine XS.aloadN X3.here hx rfl (hb hby d_jdk_68_22_24) rfl rfl ?_
    refine XS.aloadN X3.here hx rfl (hb hby d_jdk_68_22_25) rfl rfl ?_
    exact k
  obtain ⟨T4, X4, e4, st4⟩ := getF X3 hx hZ hown (host := "") (Or.inl (wq hw 83 rfl)) Via.refl e3 F_count_b (g := (mkF m 26 #[vr b, vr a, vi (Int32.ofNat sN)] [(.ref b), (.ref b)])) rfl rfl (hb hby d_jdk_68_22_26)
  refine OEnds.st st4 ?_
  refine OEnds.st (S' := T4.setTop (mkF m 30 #[vr b, vr a, vi (Int32.ofNat sN)] [(.ref a), (.int (Int32.ofNat n)), (.ref b)])) (fun _ k => ?_) ?_
  · refine XS.aloadN X4.here hx rfl (hb hby d_jdk_68_22_29) rfl rfl ?_
    exact k
  obtain ⟨_, T5, h5, L5, X5, e5, hQ5, st5⟩ := virtC X4 hx hZ (y := (⟨"java/lang/AbstractStringBuilder", "putStringAt", "(ILjava/lang/String;)V"⟩ : MethodName)) (z := (⟨"java/lang/AbstractStringBuilder", "putStringAt", "(ILjava/lang/String;)V"⟩ : MethodName)) hown (wq hw 90 rfl) (decl_of (wq hw 91 rfl) (wq hw 94 rfl)) (nf_sel (args := #[]) (mvT hZ (wq hw 88 rfl)) rfl) (wq hw 93 rfl) (wq hw 91 rfl) (by decide) (kc := 0) (ks := 0) (Con.sb (W := 0) (rm_putStr l hD b a t k cN n vs ts ks sN us O0 E_b F_coder_b F_count_b F_value_b V_t E_a F_coder_a F_value_a V_ts hvs hcN hus hroom ge_b ge_t ne_b_t) hZ (wq hw 94 rfl) (wq hw 53 rfl) (by decide) (by decide)) e4 E_b (g := (mkF m 30 #[vr b, vr a, vi (Int32.ofNat sN)] [(.ref a), (.int (Int32.ofNat n)), (.ref b)])) rfl (by rw [hml]; rfl) (argsL := [(.int (Int32.ofNat n)), (.ref a)]) (rest := []) (lenOf pd_5 rfl) rfl (by show 2 * 0 + _ ≤ _; exact Nat.le_of_eq rfl) (hb hby d_jdk_68_22_30) (by decide) (by decide)
  obtain ⟨rfl, Nq5, Kq5, Eq5, Fc5, Fn5, Fv5, V5⟩ := hQ5
  refine OEnds.st st5 ?_
  replace N0 := Fr.app N0 Nq5
  have ne_a_t : a ≠ t := ne_arv E_a (wq hw 2 rfl) V_t
  replace E_b := E_b.keep Kq5
  replace F_coder_b := F_coder_b.keep Kq5 (ninS ne_b_t nin0)
  replace F_count_b := F_count_b.keep Kq5 (ninS ne_b_t nin0)
  replace F_value_b := F_value_b.keep Kq5 (ninS ne_b_t nin0)
  replace E_a := E_a.keep Kq5
  replace F_coder_a := F_coder_a.keep Kq5 (ninS ne_a_t nin0)
  replace F_value_a := F_value_a.keep Kq5 (ninS ne_a_t nin0)
  replace O0 : Ext Z.heap h5 := ext_keep O0 Kq5 (allS ge_t all0)
  replace K0 : Keep h0 h5 [b, t] := K0.trans Kq5 (allS (Or.inl (List.mem_of_getElem? (i := 1) rfl)) all0)
  refine OEnds.st (S' := T5.setTop (mkF m 35 #[vr b, vr a, vi (Int32.ofNat sN)] [(.ref b), (.ref b)])) (fun _ k => ?_) ?_
  · refine XS.aloadN X5.here hx rfl (hb hby d_jdk_68_22_33) rfl rfl ?_
    refine XS.dup X5.here hx rfl (hb hby d_jdk_68_22_34) rfl rfl ?_
    exact k
  obtain ⟨T6, X6, e6, st6⟩ := getF X5 hx hZ hown (host := "") (Or.inl (wq hw 83 rfl)) Via.refl e5 Fn5 (g := (mkF m 35 #[vr b, vr a, vi (Int32.ofNat sN)] [(.ref b), (.ref b)])) rfl rfl (hb hby d_jdk_68_22_35)
  refine OEnds.st st6 ?_
  refine OEnds.st (S' := T6.setTop (mkF m 40 #[vr b, vr a, vi (Int32.ofNat sN)] [(.int ((Int32.ofNat n) + (Int32.ofNat sN))), (.ref b)])) (fun _ k => ?_) ?_
  · refine XS.iloadN X6.here hx rfl (hb hby d_jdk_68_22_38) rfl ?_
    refine XS.iadd X6.here hx rfl (hb hby d_jdk_68_22_39) rfl ?_
    exact k
  rw [ofn_add n sN]
  have ne_a_b : a ≠ b := ne_exa E_a E_b (by decide)
  obtain ⟨T7, h7, X7, e7, W7, st7⟩ := putF X6 hx hZ hown (host := "") (Or.inl (wq hw 83 rfl)) Via.refl e6 Fn5 E_b (Or.inl (wq hw 84 rfl)) (wq hw 44 rfl) (ty := .int) (by decide) rfl rfl (g := (mkF m 40 #[vr b, vr a, vi (Int32.ofNat sN)] [(.int (Int32.ofNat (n + sN))), (.ref b)])) rfl rfl (hb hby d_jdk_68_22_40)
  refine OEnds.st st7 ?_
  replace E_b := E_b.wr W7
  replace Fc5 := Fc5.other W7 (Or.inr (slot_ne (Or.inl (wq hw 60 rfl)) (Or.inl (wq hw 84 rfl)) (by decide) (t := .byte) (t' := .int) (by decide) (by decide)))
  replace Fn5 := Fn5.same W7
  replace Fv5 := Fv5.other W7 (Or.inr (slot_ne (Or.inl (wq hw 58 rfl)) (Or.inl (wq hw 84 rfl)) (by decide) (t := (.array .byte)) (t' := .int) (by decide) (by decide)))
  replace E_a := E_a.wr W7
  replace F_coder_a := F_coder_a.other W7 (Or.inl ne_a_b)
  replace F_value_a := F_value_a.other W7 (Or.inl ne_a_b)
  replace V5 := V5.other W7 (Ne.symm ne_b_t)
  replace O0 : Ext Z.heap h7 := ext_wr O0 W7 ge_b
  replace N0 := Fr.snoc X7 N0 ge_b
  replace K0 : Keep h0 h7 [b, t] := K0.wr W7 (Or.inl (List.mem_of_getElem? (i := 0) rfl))
  refine OEnds.st (S' := T7.setTop (mkF m 44 #[vr b, vr a, vi (Int32.ofNat sN)] [(.ref b)])) (fun _ k => ?_) ?_
  · refine XS.aloadN X7.here hx rfl (hb hby d_jdk_68_22_43) rfl rfl ?_
    exact k
  exact OEnds.ret X7 hx hret hlk rfl (Or.inr (Or.inr (Or.inr (Or.inr ⟨rfl, rfl, rfl⟩)))) (hb hby d_jdk_68_22_44) (by decide) (by decide) (by rw [e7]; exact ⟨rfl, N0, K0, E_b, Fc5, Fn5, Fv5, V5⟩)
-- java/lang/StringBuilder.append:(Ljava/lang/String;)Ljava/lang/StringBuilder;
def Q_sbAppS (Z : State) (b : Addr) (a : Addr) (t : Addr) (k : ClassId) (cN n : Nat) (vs : List Value) (ts : Addr) (ks : ClassId) (sN : Nat) (us : List Value) (h0 : Heap) (v : Option Value) (h : Heap) (L : List Loc) : Prop := v = some (.ref b) ∧ Fr Z.heap.size L ∧ Keep h0 h [b, t] ∧ Exa Z h b "java/lang/StringBuilder" ∧ Fld Z h b "java/lang/AbstractStringBuilder" "coder" "B" (.int 0) ∧ Fld Z h b "java/lang/AbstractStringBuilder" "count" "I" (.int (Int32.ofNat (n + sN))) ∧ Fld Z h b "java/lang/AbstractStringBuilder" "value" "[B" (.ref t) ∧ Arv Z h t k .byte (Int32.ofNat cN) (vs.take n ++ us ++ vs.drop (n + sN)) (.int 0)
theorem ef_sbAppS (m : MethodId) (b : Addr) (a : Addr) : entryFrame m #[(.ref b), (.ref a)] 2 = mkF m 0 #[vr b, vr a] [] := by first | (simp [entryFrame, mkF, argsToLocals, Value.category, vi, vj, vr]; done) | rfl
theorem d_jdk_67_7_0 : decode jdk_67_method_7_code 0 = .ok (.aload_n 0, 1) := by decide +kernel
theorem d_jdk_67_7_1 : decode jdk_67_method_7_code 1 = .ok (.aload_n 1, 1) := by decide +kernel
theorem d_jdk_67_7_2 : decode jdk_67_method_7_code 2 = .ok (.invokespecial 29, 3) := by decide +kernel
theorem pd_6 : parseMethodDescriptor "(Ljava/lang/String;)Ljava/lang/AbstractStringBuilder;" = some ⟨[(.object "java/lang/String")], some (.object "java/lang/AbstractStringBuilder")⟩ := by decide +kernel
theorem d_jdk_67_7_5 : decode jdk_67_method_7_code 5 = .ok (.pop, 1) := by decide +kernel
theorem d_jdk_67_7_6 : decode jdk_67_method_7_code 6 = .ok (.aload_n 0, 1) := by decide +kernel
theorem d_jdk_67_7_7 : decode jdk_67_method_7_code 7 = .ok (.areturn, 1) := by decide +kernel
set_option maxRecDepth 65536 in
set_option maxHeartbeats 40000000 in
theorem rm_sbAppS (l : Launch) {Z : State} {a0 : Array Value} (hD : Wd Z a0) (b : Addr) (a : Addr) (t : Addr) (k : ClassId) (cN n : Nat) (vs : List Value) (ts : Addr) (ks : ClassId) (sN : Nat) (us : List Value) {h0 : Heap} (O0 : Ext Z.heap h0) (E_b : Exa Z h0 b "java/lang/StringBuilder") (F_coder_b : Fld Z h0 b "java/lang/AbstractStringBuilder" "coder" "B" (.int 0)) (F_count_b : Fld Z h0 b "java/lang/AbstractStringBuilder" "count" "I" (.int (Int32.ofNat n))) (F_value_b : Fld Z h0 b "java/lang/AbstractStringBuilder" "value" "[B" (.ref t)) (V_t : Arv Z h0 t k .byte (Int32.ofNat cN) vs (.int 0)) (E_a : Exa Z h0 a "java/lang/String") (F_coder_a : Fld Z h0 a "java/lang/String" "coder" "B" (.int 0)) (F_value_a : Fld Z h0 a "java/lang/String" "value" "[B" (.ref ts)) (V_ts : Arv Z h0 ts ks .byte (Int32.ofNat sN) us (.int 0)) (hvs : vs.length = cN) (hcN : cN ≤ 4000) (hus : us.length = sN) (hroom : n + sN ≤ cN) (ge_b : Z.heap.size ≤ b) (ge_t : Z.heap.size ≤ t) (ne_b_t : b ≠ t) :
    Con l Z (⟨"java/lang/StringBuilder", "append", "(Ljava/lang/String;)Ljava/lang/StringBuilder;"⟩ : MethodName) jdk_67_method_7_code 2 (some (.object "java/lang/StringBuilder")) [] ({ frames := 4, cells := 0, slots := 0, locals := 61 } : Room) #[(.ref b), (.ref a)] h0 (Q_sbAppS Z b a t k cN n vs ts ks sN us h0) := by
  refine Con.walk (plainFor_of_name pn_3) ?_
  intro p e s m below meth c T0 X0 hx hZ hby hml hown hnm hret hlk e0
  obtain ⟨hw, ⟨cz, S_CS, hcz⟩, ⟨sf, S_SF, hsf⟩, ⟨d1, d2, kd1, kd2, S_D1, S_D2, V_D1, V_D2⟩⟩ := id hD
  have N0 := Fr.nil Z.heap.size
  have K0 : Keep h0 h0 [b, t] := Keep.refl _ _
  refine OEnds.cast (ef_sbAppS m b a) ?_
  refine OEnds.st (S' := T0.setTop (mkF m 2 #[vr b, vr a] [(.ref a), (.ref b)])) (fun _ k => ?_) ?_
  · refine XS.aloadN X0.here hx rfl (hb hby d_jdk_67_7_0) rfl rfl ?_
    refine XS.aloadN X0.here hx rfl (hb hby d_jdk_67_7_1) rfl rfl ?_
    exact k
  obtain ⟨_, T1, h1, L1, X1, e1, hQ1, st1⟩ := superC X0 hx hZ (y := (⟨"java/lang/AbstractStringBuilder", "append", "(Ljava/lang/String;)Ljava/lang/AbstractStringBuilder;"⟩ : MethodName)) hown (wq hw 67 rfl) (same_of (nf_sel (args := a0) (wq hw 88 rfl) rfl) (wq hw 68 rfl) (by decide)) (wq hw 68 rfl) (wq hw 69 rfl) (wq hw 71 rfl) (by decide) (kc := 0) (ks := 0) (Con.sb (W := 0) (rm_asbAppS l hD b a t k cN n vs ts ks sN us O0 E_b F_coder_b F_count_b F_value_b V_t E_a F_coder_a F_value_a V_ts hvs hcN hus hroom ge_b ge_t ne_b_t) hZ (wq hw 71 rfl) (wq hw 53 rfl) (by decide) (by decide)) e0 E_b (g := (mkF m 2 #[vr b, vr a] [(.ref a), (.ref b)])) rfl (by rw [hml]; rfl) (argsL := [(.ref a)]) (rest := []) (lenOf pd_6 rfl) rfl (by show 2 * 0 + _ ≤ _; exact Nat.le_of_eq rfl) (hb hby d_jdk_67_7_2) (by decide) (by decide)
  obtain ⟨rfl, Nq1, Kq1, Eq1, Fc1, Fn1, Fv1, V1⟩ := hQ1
  refine OEnds.st st1 ?_
  replace N0 := Fr.app N0 Nq1
  have ne_a_b : a ≠ b := ne_exa E_a E_b (by decide)
  have ne_ts_b : ts ≠ b := Ne.symm (ne_arv E_b (wq hw 44 rfl) V_ts)
  have ne_a_t : a ≠ t := ne_arv E_a (wq hw 2 rfl) V_t
  replace E_b := E_b.keep Kq1
  replace E_a := E_a.keep Kq1
  replace F_coder_a := F_coder_a.keep Kq1 (ninS ne_a_b (ninS ne_a_t nin0))
  replace F_value_a := F_value_a.keep Kq1 (ninS ne_a_b (ninS ne_a_t nin0))
  replace O0 : Ext Z.heap h1 := ext_keep O0 Kq1 (allS ge_b (allS ge_t all0))
  replace K0 : Keep h0 h1 [b, t] := K0.trans Kq1 (allS (Or.inl (List.mem_of_getElem? (i := 0) rfl)) (allS (Or.inl (List.mem_of_getElem? (i := 1) rfl)) all0))
  refine OEnds.st (S' := T1.setTop (mkF m 7 #[vr b, vr a] [(.ref b)])) (fun _ k => ?_) ?_
  · refine XS.pop X1.here hx rfl (hb hby d_jdk_67_7_5) rfl rfl ?_
    refine XS.aloadN X1.here hx rfl (hb hby d_jdk_67_7_6) rfl rfl ?_
    exact k
  exact OEnds.ret X1 hx hret hlk rfl (Or.inr (Or.inr (Or.inr (Or.inr ⟨rfl, rfl, rfl⟩)))) (hb hby d_jdk_67_7_7) (by decide) (by decide) (by rw [e1]; exact ⟨rfl, N0, K0, E_b, Fc1, Fn1, Fv1, V1⟩)
-- java/lang/Math.max:(II)I
def Q_max18 (Z : State) (x : Int32) (h0 : Heap) (v : Option Value) (h : Heap) (L : List Loc) : Prop := v = some (.int 18) ∧ Fr Z.heap.size L ∧ h = h0
theorem ef_max18 (m : MethodId) (x : Int32) : entryFrame m #[(.int x), (.int 18)] 2 = mkF m 0 #[vi x, vi 18] [] := by first | (simp [entryFrame, mkF, argsToLocals, Value.category, vi, vj, vr]; done) | rfl
theorem d_jdk_29_65_0 : decode jdk_29_method_65_code 0 = .ok (.iload_n 0, 1) := by decide +kernel
theorem d_jdk_29_65_1 : decode jdk_29_method_65_code 1 = .ok (.iload_n 1, 1) := by decide +kernel
theorem d_jdk_29_65_2 : decode jdk_29_method_65_code 2 = .ok (.if_icmp .lt 7, 3) := by decide +kernel
theorem d_jdk_29_65_9 : decode jdk_29_method_65_code 9 = .ok (.iload_n 1, 1) := by decide +kernel
theorem d_jdk_29_65_10 : decode jdk_29_method_65_code 10 = .ok (.ireturn, 1) := by decide +kernel
set_option maxRecDepth 65536 in
set_option maxHeartbeats 40000000 in
theorem rm_max18 (l : Launch) {Z : State} {a0 : Array Value} (hD : Wd Z a0) (x : Int32) {h0 : Heap} (O0 : Ext Z.heap h0) (hlt : x < 18) :
    Con l Z (⟨"java/lang/Math", "max", "(II)I"⟩ : MethodName) jdk_29_method_65_code 2 (some .int) [] ({ frames := 0, cells := 0, slots := 0, locals := 0 } : Room) #[(.int x), (.int 18)] h0 (Q_max18 Z x h0) := by
  refine Con.walk (Jvm.Free.JP.mathPlain rfl (by decide +kernel)) ?_
  intro p e s m below meth c T0 X0 hx hZ hby hml hown hnm hret hlk e0
  obtain ⟨hw, ⟨cz, S_CS, hcz⟩, ⟨sf, S_SF, hsf⟩, ⟨d1, d2, kd1, kd2, S_D1, S_D2, V_D1, V_D2⟩⟩ := id hD
  have N0 := Fr.nil Z.heap.size
  refine OEnds.cast (ef_max18 m x) ?_
  refine OEnds.st (S' := T0.setTop (mkF m 10 #[vi x, vi 18] [(.int 18)])) (fun _ k => ?_) ?_
  · refine XS.iloadN X0.here hx rfl (hb hby d_jdk_29_65_0) rfl ?_
    refine XS.iloadN X0.here hx rfl (hb hby d_jdk_29_65_1) rfl ?_
    refine XS.icmpYes X0.here hx rfl (pc0 := 2) (pc' := 9) rfl (hb hby d_jdk_29_65_2) rfl (tlt hlt).1 (by decide) (by decide) ?_
    refine XS.iloadN X0.here hx rfl (hb hby d_jdk_29_65_9) rfl ?_
    exact k
  exact OEnds.ret X0 hx hret hlk rfl (Or.inl ⟨rfl, by simp, _, rfl⟩) (hb hby d_jdk_29_65_10) (by decide) (by decide) (by rw [e0]; exact ⟨rfl, N0, rfl⟩)
-- jdk/internal/util/ArraysSupport.newLength:(III)I
def Q_newLen (Z : State) (x : Int32) (h0 : Heap) (v : Option Value) (h : Heap) (L : List Loc) : Prop := v = some (.int 34) ∧ Fr Z.heap.size L ∧ h = h0
theorem ef_newLen (m : MethodId) (x : Int32) : entryFrame m #[(.int 16), (.int x), (.int 18)] 4 = mkF m 0 #[vi 16, vi x, vi 18, .unset] [] := by first | (simp [entryFrame, mkF, argsToLocals, Value.category, vi, vj, vr]; done) | rfl
theorem pn_4 : plainName "jdk/internal/util/ArraysSupport" = true := by first | (simp [plainName, overriddenIn]; done) | decide +kernel
theorem d_jdk_48_27_0 : decode jdk_48_method_27_code 0 = .ok (.iload_n 0, 1) := by decide +kernel
theorem d_jdk_48_27_1 : decode jdk_48_method_27_code 1 = .ok (.iload_n 1, 1) := by decide +kernel
theorem d_jdk_48_27_2 : decode jdk_48_method_27_code 2 = .ok (.iload_n 2, 1) := by decide +kernel
theorem d_jdk_48_27_3 : decode jdk_48_method_27_code 3 = .ok (.invokestatic 194, 3) := by decide +kernel
theorem pd_7 : parseMethodDescriptor "(II)I" = some ⟨[.int, .int], some .int⟩ := by decide +kernel
theorem d_jdk_48_27_6 : decode jdk_48_method_27_code 6 = .ok (.iadd, 1) := by decide +kernel
theorem d_jdk_48_27_7 : decode jdk_48_method_27_code 7 = .ok (.istore_n 3, 1) := by decide +kernel
theorem d_jdk_48_27_8 : decode jdk_48_method_27_code 8 = .ok (.iconst 0, 1) := by decide +kernel
theorem d_jdk_48_27_9 : decode jdk_48_method_27_code 9 = .ok (.iload_n 3, 1) := by decide +kernel
theorem d_jdk_48_27_10 : decode jdk_48_method_27_code 10 = .ok (.if_icmp .ge 11, 3) := by decide +kernel
theorem d_jdk_48_27_13 : decode jdk_48_method_27_code 13 = .ok (.iload_n 3, 1) := by decide +kernel
theorem d_jdk_48_27_14 : decode jdk_48_method_27_code 14 = .ok (.ldc 200, 2) := by decide +kernel
theorem d_jdk_48_27_16 : decode jdk_48_method_27_code 16 = .ok (.if_icmp .gt 5, 3) := by decide +kernel
theorem d_jdk_48_27_19 : decode jdk_48_method_27_code 19 = .ok (.iload_n 3, 1) := by decide +kernel
theorem d_jdk_48_27_20 : decode jdk_48_method_27_code 20 = .ok (.ireturn, 1) := by decide +kernel
set_option maxRecDepth 65536 in
set_option maxHeartbeats 40000000 in
theorem rm_newLen (l : Launch) {Z : State} {a0 : Array Value} (hD : Wd Z a0) (x : Int32) {h0 : Heap} (O0 : Ext Z.heap h0) (hlt : x < 18) :
    Con l Z (⟨"jdk/internal/util/ArraysSupport", "newLength", "(III)I"⟩ : MethodName) jdk_48_method_27_code 4 (some .int) [] ({ frames := 1, cells := 0, slots := 0, locals := 14 } : Room) #[(.int 16), (.int x), (.int 18)] h0 (Q_newLen Z x h0) := by
  refine Con.walk (plainFor_of_name pn_4) ?_
  intro p e s m below meth c T0 X0 hx hZ hby hml hown hnm hret hlk e0
  obtain ⟨hw, ⟨cz, S_CS, hcz⟩, ⟨sf, S_SF, hsf⟩, ⟨d1, d2, kd1, kd2, S_D1, S_D2, V_D1, V_D2⟩⟩ := id hD
  have N0 := Fr.nil Z.heap.size
  refine OEnds.cast (ef_newLen m x) ?_
  refine OEnds.st (S' := T0.setTop (mkF m 3 #[vi 16, vi x, vi 18, .unset] [(.int 18), (.int x), (.int 16)])) (fun _ k => ?_) ?_
  · refine XS.iloadN X0.here hx rfl (hb hby d_jdk_48_27_0) rfl ?_
    refine XS.iloadN X0.here hx rfl (hb hby d_jdk_48_27_1) rfl ?_
    refine XS.iloadN X0.here hx rfl (hb hby d_jdk_48_27_2) rfl ?_
    exact k
  obtain ⟨_, T1, h1, L1, X1, e1, hQ1, st1⟩ := callC X0 hx hZ hown (wq hw 142 rfl) (wq hw 143 rfl) (wq hw 144 rfl) (wq hw 145 rfl) (by decide) (kc := 0) (ks := 0) (Con.sb (W := 1) (rm_max18 l hD x O0 hlt) hZ (wq hw 145 rfl) (wq hw 144 rfl) (by decide) (by decide)) e0 (g := (mkF m 3 #[vi 16, vi x, vi 18, .unset] [(.int 18), (.int x), (.int 16)])) rfl (by rw [hml]; rfl) (argsL := [(.int x), (.int 18)]) (rest := [(.int 16)]) (lenOf pd_7 rfl) rfl (by show 2 * 0 + _ ≤ _; exact Nat.le_of_eq rfl) (hb hby d_jdk_48_27_3) (by decide) (by decide)
  obtain ⟨rfl, Nq1, Hq1⟩ := hQ1
  refine OEnds.st st1 ?_
  replace N0 := Fr.app N0 Nq1
  replace e1 := e1.trans Hq1
  refine OEnds.st (S' := T1.setTop (mkF m 20 #[vi 16, vi x, vi 18, vi 34] [(.int 34)])) (fun _ k => ?_) ?_
  · refine XS.iadd X1.here hx rfl (hb hby d_jdk_48_27_6) rfl ?_
    refine XS.istoreN X1.here hx rfl (hb hby d_jdk_48_27_7) rfl (l' := #[vi 16, vi x, vi 18, vi 34]) rfl ?_
    refine XS.iconst X1.here hx rfl (hb hby d_jdk_48_27_8) ?_
    refine XS.iloadN X1.here hx rfl (hb hby d_jdk_48_27_9) rfl ?_
    show Steps p.tables e below (T1.setTop (mkF m 10 #[vi 16, vi x, vi 18, vi 34] [(.int 34), (.int 0)])) _
    refine XS.icmpNo X1.here hx rfl (hb hby d_jdk_48_27_10) rfl (tlt (by decide)).2.1 ?_
    refine XS.iloadN X1.here hx rfl (hb hby d_jdk_48_27_13) rfl ?_
    refine X1.ldcInt hx hown (mvT hZ (wq hw 146 rfl)) (g := (mkF m 14 #[vi 16, vi x, vi 18, vi 34] [(.int 34)])) rfl (hb hby d_jdk_48_27_14) _ ?_
    refine XS.icmpNo X1.here hx rfl (hb hby d_jdk_48_27_16) rfl (flt (by decide)).2.2.1 ?_
    show Steps p.tables e below (T1.setTop (mkF m 19 #[vi 16, vi x, vi 18, vi 34] [])) _
    refine XS.iloadN X1.here hx rfl (hb hby d_jdk_48_27_19) rfl ?_
    exact k
  exact OEnds.ret X1 hx hret hlk rfl (Or.inl ⟨rfl, by simp, _, rfl⟩) (hb hby d_jdk_48_27_20) (by decide) (by decide) (by rw [e1]; exact ⟨rfl, N0, rfl⟩)
-- java/lang/AbstractStringBuilder.newCapacity:(I)I
def Q_newCap (Z : State) (b : Addr) (mn : Nat) (t : Addr) (k : ClassId) (n : Nat) (vs : List Value) (h0 : Heap) (v : Option Value) (h : Heap) (L : List Loc) : Prop := v = some (.int 34) ∧ Fr Z.heap.size L ∧ h = h0
theorem ef_newCap (m : MethodId) (b : Addr) : entryFrame m #[(.ref b), (.int (Int32.ofNat mn))] 6 = mkF m 0 #[vr b, vi (Int32.ofNat mn), .unset, .unset, .unset, .unset] [] := by first | (simp [entryFrame, mkF, argsToLocals, Value.category, vi, vj, vr]; done) | rfl
theorem d_jdk_68_10_0 : decode jdk_68_method_10_code 0 = .ok (.aload_n 0, 1) := by decide +kernel
theorem d_jdk_68_10_1 : decode jdk_68_method_10_code 1 = .ok (.getfield 15, 3) := by decide +kernel
theorem d_jdk_68_10_4 : decode jdk_68_method_10_code 4 = .ok (.arraylength, 1) := by decide +kernel
theorem d_jdk_68_10_5 : decode jdk_68_method_10_code 5 = .ok (.istore_n 2, 1) := by decide +kernel
theorem d_jdk_68_10_6 : decode jdk_68_method_10_code 6 = .ok (.iload_n 1, 1) := by decide +kernel
theorem d_jdk_68_10_7 : decode jdk_68_method_10_code 7 = .ok (.aload_n 0, 1) := by decide +kernel
theorem d_jdk_68_10_8 : decode jdk_68_method_10_code 8 = .ok (.getfield 22, 3) := by decide +kernel
theorem d_jdk_68_10_11 : decode jdk_68_method_10_code 11 = .ok (.ishl, 1) := by decide +kernel
theorem d_jdk_68_10_12 : decode jdk_68_method_10_code 12 = .ok (.istore_n 3, 1) := by decide +kernel
theorem d_jdk_68_10_13 : decode jdk_68_method_10_code 13 = .ok (.iload_n 3, 1) := by decide +kernel
theorem d_jdk_68_10_14 : decode jdk_68_method_10_code 14 = .ok (.iload_n 2, 1) := by decide +kernel
theorem d_jdk_68_10_15 : decode jdk_68_method_10_code 15 = .ok (.isub, 1) := by decide +kernel
theorem d_jdk_68_10_16 : decode jdk_68_method_10_code 16 = .ok (.istore 4, 2) := by decide +kernel
theorem d_jdk_68_10_18 : decode jdk_68_method_10_code 18 = .ok (.iload_n 2, 1) := by decide +kernel
theorem d_jdk_68_10_19 : decode jdk_68_method_10_code 19 = .ok (.iload 4, 2) := by decide +kernel
theorem d_jdk_68_10_21 : decode jdk_68_method_10_code 21 = .ok (.iload_n 2, 1) := by decide +kernel
theorem d_jdk_68_10_22 : decode jdk_68_method_10_code 22 = .ok (.iconst 2, 1) := by decide +kernel
theorem d_jdk_68_10_23 : decode jdk_68_method_10_code 23 = .ok (.aload_n 0, 1) := by decide +kernel
theorem d_jdk_68_10_24 : decode jdk_68_method_10_code 24 = .ok (.getfield 22, 3) := by decide +kernel
theorem d_jdk_68_10_27 : decode jdk_68_method_10_code 27 = .ok (.ishl, 1) := by decide +kernel
theorem d_jdk_68_10_28 : decode jdk_68_method_10_code 28 = .ok (.iadd, 1) := by decide +kernel
theorem d_jdk_68_10_29 : decode jdk_68_method_10_code 29 = .ok (.invokestatic 114, 3) := by decide +kernel
theorem pd_8 : parseMethodDescriptor "(III)I" = some ⟨[.int, .int, .int], some .int⟩ := by decide +kernel
theorem d_jdk_68_10_32 : decode jdk_68_method_10_code 32 = .ok (.istore 5, 2) := by decide +kernel
theorem d_jdk_68_10_34 : decode jdk_68_method_10_code 34 = .ok (.iload 5, 2) := by decide +kernel
theorem d_jdk_68_10_36 : decode jdk_68_method_10_code 36 = .ok (.ldc 39, 2) := by decide +kernel
theorem d_jdk_68_10_38 : decode jdk_68_method_10_code 38 = .ok (.if_icmp .ne 13, 3) := by decide +kernel
theorem d_jdk_68_10_51 : decode jdk_68_method_10_code 51 = .ok (.iload 5, 2) := by decide +kernel
theorem d_jdk_68_10_53 : decode jdk_68_method_10_code 53 = .ok (.aload_n 0, 1) := by decide +kernel
theorem d_jdk_68_10_54 : decode jdk_68_method_10_code 54 = .ok (.getfield 22, 3) := by decide +kernel
theorem d_jdk_68_10_57 : decode jdk_68_method_10_code 57 = .ok (.ishr, 1) := by decide +kernel
theorem d_jdk_68_10_58 : decode jdk_68_method_10_code 58 = .ok (.ireturn, 1) := by decide +kernel
set_option maxRecDepth 65536 in
set_option maxHeartbeats 40000000 in
theorem rm_newCap (l : Launch) {Z : State} {a0 : Array Value} (hD : Wd Z a0) (b : Addr) (mn : Nat) (t : Addr) (k : ClassId) (n : Nat) (vs : List Value) {h0 : Heap} (O0 : Ext Z.heap h0) (E_b : Exa Z h0 b "java/lang/StringBuilder") (F_coder_b : Fld Z h0 b "java/lang/AbstractStringBuilder" "coder" "B" (.int 0)) (F_count_b : Fld Z h0 b "java/lang/AbstractStringBuilder" "count" "I" (.int (Int32.ofNat n))) (F_value_b : Fld Z h0 b "java/lang/AbstractStringBuilder" "value" "[B" (.ref t)) (V_t : Arv Z h0 t k .byte (Int32.ofNat 16) vs (.int 0)) (hmn : 16 < mn) (hmn2 : mn ≤ 33) :
    Con l Z (⟨"java/lang/AbstractStringBuilder", "newCapacity", "(I)I"⟩ : MethodName) jdk_68_method_10_code 6 (some .int) [] ({ frames := 2, cells := 0, slots := 0, locals := 29 } : Room) #[(.ref b), (.int (Int32.ofNat mn))] h0 (Q_newCap Z b mn t k n vs h0) := by
  refine Con.walk (plainFor_of_name pn_2) ?_
  intro p e s m below meth c T0 X0 hx hZ hby hml hown hnm hret hlk e0
  obtain ⟨hw, ⟨cz, S_CS, hcz⟩, ⟨sf, S_SF, hsf⟩, ⟨d1, d2, kd1, kd2, S_D1, S_D2, V_D1, V_D2⟩⟩ := id hD
  have N0 := Fr.nil Z.heap.size
  refine OEnds.cast (ef_newCap m b) ?_
  refine OEnds.st (S' := T0.setTop (mkF m 1 #[vr b, vi (Int32.ofNat mn), .unset, .unset, .unset, .unset] [(.ref b)])) (fun _ k => ?_) ?_
  · refine XS.aloadN X0.here hx rfl (hb hby d_jdk_68_10_0) rfl rfl ?_
    exact k
  obtain ⟨T1, X1, e1, st1⟩ := getF X0 hx hZ hown (host := "") (Or.inl (wq hw 57 rfl)) Via.refl e0 F_value_b (g := (mkF m 1 #[vr b, vi (Int32.ofNat mn), .unset, .unset, .unset, .unset] [(.ref b)])) rfl rfl (hb hby d_jdk_68_10_1)
  refine OEnds.st st1 ?_
  obtain ⟨cl_t_2, Ar_t_2, q_t_2, S_t_2, N_t_2, H_t_2, G_t_2⟩ := id V_t
  refine OEnds.st (S' := T1.setTop (mkF m 5 #[vr b, vi (Int32.ofNat mn), .unset, .unset, .unset, .unset] [(.int (Int32.ofNat 16))])) (fun tg kq9 => X1.arraylength hx (by rw [e1]; exact Ar_t_2.1) (State.isArrayOf_alike hZ.alike Ar_t_2.2.1) (g := (mkF m 4 #[vr b, vi (Int32.ofNat mn), .unset, .unset, .unset, .unset] [(.ref t)])) rfl rfl (hb hby d_jdk_68_10_4) tg (by rw [len_of S_t_2 N_t_2]; exact kq9)) ?_
  refine OEnds.st (S' := T1.setTop (mkF m 8 #[vr b, vi (Int32.ofNat mn), vi (Int32.ofNat 16), .unset, .unset, .unset] [(.ref b), (.int (Int32.ofNat mn))])) (fun _ k => ?_) ?_
  · refine XS.istoreN X1.here hx rfl (hb hby d_jdk_68_10_5) rfl (l' := #[vr b, vi (Int32.ofNat mn), vi (Int32.ofNat 16), .unset, .unset, .unset]) rfl ?_
    refine XS.iloadN X1.here hx rfl (hb hby d_jdk_68_10_6) rfl ?_
    refine XS.aloadN X1.here hx rfl (hb hby d_jdk_68_10_7) rfl rfl ?_
    exact k
  obtain ⟨T3, X3, e3, st3⟩ := getF X1 hx hZ hown (host := "") (Or.inl (wq hw 59 rfl)) Via.refl e1 F_coder_b (g := (mkF m 8 #[vr b, vi (Int32.ofNat mn), vi (Int32.ofNat 16), .unset, .unset, .unset] [(.ref b), (.int (Int32.ofNat mn))])) rfl rfl (hb hby d_jdk_68_10_8)
  refine OEnds.st st3 ?_
  refine OEnds.st (S' := T3.setTop (mkF m 16 #[vr b, vi (Int32.ofNat mn), vi (Int32.ofNat 16), vi (Int32.ofNat mn), .unset, .unset] [(.int ((Int32.ofNat mn) - (Int32.ofNat 16)))])) (fun _ k => ?_) ?_
  · refine XS.ishl X3.here hx rfl (hb hby d_jdk_68_10_11) rfl ?_
    rw [shl0 (Int32.ofNat mn)]
    refine XS.istoreN X3.here hx rfl (hb hby d_jdk_68_10_12) rfl (l' := #[vr b, vi (Int32.ofNat mn), vi (Int32.ofNat 16), vi (Int32.ofNat mn), .unset, .unset]) rfl ?_
    refine XS.iloadN X3.here hx rfl (hb hby d_jdk_68_10_13) rfl ?_
    refine XS.iloadN X3.here hx rfl (hb hby d_jdk_68_10_14) rfl ?_
    show Steps p.tables e below (T3.setTop (mkF m 15 #[vr b, vi (Int32.ofNat mn), vi (Int32.ofNat 16), vi (Int32.ofNat mn), .unset, .unset] [(.int (Int32.ofNat 16)), (.int (Int32.ofNat mn))])) _
    refine XS.isub X3.here hx rfl (hb hby d_jdk_68_10_15) rfl ?_
    exact k
  have hlt : (Int32.ofNat mn) - Int32.ofNat 16 < 18 := by
    rw [ofn_sub (by omega)]; exact (ofn_lt (k := 18) (by omega) (by decide)).mpr (by omega)
  refine OEnds.st (S' := T3.setTop (mkF m 24 #[vr b, vi (Int32.ofNat mn), vi (Int32.ofNat 16), vi (Int32.ofNat mn), vi ((Int32.ofNat mn) - (Int32.ofNat 16)), .unset] [(.ref b), (.int 2), (.int (Int32.ofNat 16)), (.int ((Int32.ofNat mn) - (Int32.ofNat 16))), (.int (Int32.ofNat 16))])) (fun _ k => ?_) ?_
  · refine XS.istore X3.here hx rfl (hb hby d_jdk_68_10_16) rfl (l' := #[vr b, vi (Int32.ofNat mn), vi (Int32.ofNat 16), vi (Int32.ofNat mn), vi ((Int32.ofNat mn) - (Int32.ofNat 16)), .unset]) rfl ?_
    refine XS.iloadN X3.here hx rfl (hb hby d_jdk_68_10_18) rfl ?_
    refine XS.iload X3.here hx rfl (hb hby d_jdk_68_10_19) rfl ?_
    refine XS.iloadN X3.here hx rfl (hb hby d_jdk_68_10_21) rfl ?_
    show Steps p.tables e below (T3.setTop (mkF m 22 #[vr b, vi (Int32.ofNat mn), vi (Int32.ofNat 16), vi (Int32.ofNat mn), vi ((Int32.ofNat mn) - (Int32.ofNat 16)), .unset] [(.int (Int32.ofNat 16)), (.int ((Int32.ofNat mn) - (Int32.ofNat 16))), (.int (Int32.ofNat 16))])) _
    refine XS.iconst X3.here hx rfl (hb hby d_jdk_68_10_22) ?_
    refine XS.aloadN X3.here hx rfl (hb hby d_jdk_68_10_23) rfl rfl ?_
    exact k
  obtain ⟨T4, X4, e4, st4⟩ := getF X3 hx hZ hown (host := "") (Or.inl (wq hw 59 rfl)) Via.refl e3 F_coder_b (g := (mkF m 24 #[vr b, vi (Int32.ofNat mn), vi (Int32.ofNat 16), vi (Int32.ofNat mn), vi ((Int32.ofNat mn) - (Int32.ofNat 16)), .unset] [(.ref b), (.int 2), (.int (Int32.ofNat 16)), (.int ((Int32.ofNat mn) - (Int32.ofNat 16))), (.int (Int32.ofNat 16))])) rfl rfl (hb hby d_jdk_68_10_24)
  refine OEnds.st st4 ?_
  refine OEnds.st (S' := T4.setTop (mkF m 29 #[vr b, vi (Int32.ofNat mn), vi (Int32.ofNat 16), vi (Int32.ofNat mn), vi ((Int32.ofNat mn) - (Int32.ofNat 16)), .unset] [(.int ((Int32.ofNat 16) + (2 : Int32))), (.int ((Int32.ofNat mn) - (Int32.ofNat 16))), (.int (Int32.ofNat 16))])) (fun _ k => ?_) ?_
  · refine XS.ishl X4.here hx rfl (hb hby d_jdk_68_10_27) rfl ?_
    refine XS.iadd X4.here hx rfl (hb hby d_jdk_68_10_28) rfl ?_
    exact k
  rw [show Int32.ofNat 16 + (2 : Int32) = (18 : Int32) from rfl]
  obtain ⟨_, T5, h5, L5, X5, e5, hQ5, st5⟩ := callC X4 hx hZ hown (wq hw 138 rfl) (wq hw 139 rfl) (wq hw 140 rfl) (wq hw 141 rfl) (by decide) (kc := 0) (ks := 0) (Con.sb (W := 0) (rm_newLen l hD ((Int32.ofNat mn) - Int32.ofNat 16) O0 hlt) hZ (wq hw 141 rfl) (wq hw 140 rfl) (by decide) (by decide)) e4 (g := (mkF m 29 #[vr b, vi (Int32.ofNat mn), vi (Int32.ofNat 16), vi (Int32.ofNat mn), vi ((Int32.ofNat mn) - (Int32.ofNat 16)), .unset] [(.int 18), (.int ((Int32.ofNat mn) - (Int32.ofNat 16))), (.int (Int32.ofNat 16))])) rfl (by rw [hml]; rfl) (argsL := [(.int (Int32.ofNat 16)), (.int ((Int32.ofNat mn) - (Int32.ofNat 16))), (.int 18)]) (rest := []) (lenOf pd_8 rfl) rfl (by show 2 * 0 + _ ≤ _; exact Nat.le_of_eq rfl) (hb hby d_jdk_68_10_29) (by decide) (by decide)
  obtain ⟨rfl, Nq5, Hq5⟩ := hQ5
  refine OEnds.st st5 ?_
  replace N0 := Fr.app N0 Nq5
  replace e5 := e5.trans Hq5
  refine OEnds.st (S' := T5.setTop (mkF m 54 #[vr b, vi (Int32.ofNat mn), vi (Int32.ofNat 16), vi (Int32.ofNat mn), vi ((Int32.ofNat mn) - (Int32.ofNat 16)), vi 34] [(.ref b), (.int 34)])) (fun _ k => ?_) ?_
  · refine XS.istore X5.here hx rfl (hb hby d_jdk_68_10_32) rfl (l' := #[vr b, vi (Int32.ofNat mn), vi (Int32.ofNat 16), vi (Int32.ofNat mn), vi ((Int32.ofNat mn) - (Int32.ofNat 16)), vi 34]) rfl ?_
    refine XS.iload X5.here hx rfl (hb hby d_jdk_68_10_34) rfl ?_
    refine X5.ldcInt hx hown (mvT hZ (wq hw 147 rfl)) (g := (mkF m 36 #[vr b, vi (Int32.ofNat mn), vi (Int32.ofNat 16), vi (Int32.ofNat mn), vi ((Int32.ofNat mn) - (Int32.ofNat 16)), vi 34] [(.int 34)])) rfl (hb hby d_jdk_68_10_36) _ ?_
    refine XS.icmpYes X5.here hx rfl (pc0 := 38) (pc' := 51) rfl (hb hby d_jdk_68_10_38) rfl (feq (by decide)).2 (by decide) (by decide) ?_
    show Steps p.tables e below (T5.setTop (mkF m 51 #[vr b, vi (Int32.ofNat mn), vi (Int32.ofNat 16), vi (Int32.ofNat mn), vi ((Int32.ofNat mn) - (Int32.ofNat 16)), vi 34] [])) _
    refine XS.iload X5.here hx rfl (hb hby d_jdk_68_10_51) rfl ?_
    refine XS.aloadN X5.here hx rfl (hb hby d_jdk_68_10_53) rfl rfl ?_
    exact k
  obtain ⟨T6, X6, e6, st6⟩ := getF X5 hx hZ hown (host := "") (Or.inl (wq hw 59 rfl)) Via.refl e5 F_coder_b (g := (mkF m 54 #[vr b, vi (Int32.ofNat mn), vi (Int32.ofNat 16), vi (Int32.ofNat mn), vi ((Int32.ofNat mn) - (Int32.ofNat 16)), vi 34] [(.ref b), (.int 34)])) rfl rfl (hb hby d_jdk_68_10_54)
  refine OEnds.st st6 ?_
  refine OEnds.st (S' := T6.setTop (mkF m 58 #[vr b, vi (Int32.ofNat mn), vi (Int32.ofNat 16), vi (Int32.ofNat mn), vi ((Int32.ofNat mn) - (Int32.ofNat 16)), vi 34] [(.int 34)])) (fun _ k => ?_) ?_
  · refine XS.ishr X6.here hx rfl (hb hby d_jdk_68_10_57) rfl ?_
    exact k
  exact OEnds.ret X6 hx hret hlk rfl (Or.inl ⟨rfl, by simp, _, rfl⟩) (hb hby d_jdk_68_10_58) (by decide) (by decide) (by rw [e6]; exact ⟨rfl, N0, rfl⟩)
-- java/lang/Math.min:(II)I
def Q_min16 (Z : State)  (h0 : Heap) (v : Option Value) (h : Heap) (L : List Loc) : Prop := v = some (.int (Int32.ofNat 16)) ∧ Fr Z.heap.size L ∧ h = h0
theorem ef_min16 (m : MethodId)  : entryFrame m #[(.int (Int32.ofNat 16)), (.int 34)] 2 = mkF m 0 #[vi (Int32.ofNat 16), vi 34] [] := by first | (simp [entryFrame, mkF, argsToLocals, Value.category, vi, vj, vr]; done) | rfl
theorem d_jdk_29_69_0 : decode jdk_29_method_69_code 0 = .ok (.iload_n 0, 1) := by decide +kernel
theorem d_jdk_29_69_1 : decode jdk_29_method_69_code 1 = .ok (.iload_n 1, 1) := by decide +kernel
theorem d_jdk_29_69_2 : decode jdk_29_method_69_code 2 = .ok (.if_icmp .gt 7, 3) := by decide +kernel
theorem d_jdk_29_69_5 : decode jdk_29_method_69_code 5 = .ok (.iload_n 0, 1) := by decide +kernel
theorem d_jdk_29_69_6 : decode jdk_29_method_69_code 6 = .ok (.goto 4, 3) := by decide +kernel
theorem d_jdk_29_69_10 : decode jdk_29_method_69_code 10 = .ok (.ireturn, 1) := by decide +kernel
set_option maxRecDepth 65536 in
set_option maxHeartbeats 40000000 in
theorem rm_min16 (l : Launch) {Z : State} {a0 : Array Value} (hD : Wd Z a0)  {h0 : Heap} (O0 : Ext Z.heap h0) :
    Con l Z (⟨"java/lang/Math", "min", "(II)I"⟩ : MethodName) jdk_29_method_69_code 2 (some .int) [] ({ frames := 0, cells := 0, slots := 0, locals := 0 } : Room) #[(.int (Int32.ofNat 16)), (.int 34)] h0 (Q_min16 Z  h0) := by
  refine Con.walk (Jvm.Free.JP.mathPlain rfl (by decide +kernel)) ?_
  intro p e s m below meth c T0 X0 hx hZ hby hml hown hnm hret hlk e0
  obtain ⟨hw, ⟨cz, S_CS, hcz⟩, ⟨sf, S_SF, hsf⟩, ⟨d1, d2, kd1, kd2, S_D1, S_D2, V_D1, V_D2⟩⟩ := id hD
  have N0 := Fr.nil Z.heap.size
  refine OEnds.cast (ef_min16 m ) ?_
  refine OEnds.st (S' := T0.setTop (mkF m 10 #[vi (Int32.ofNat 16), vi 34] [(.int (Int32.ofNat 16))])) (fun _ k => ?_) ?_
  · refine XS.iloadN X0.here hx rfl (hb hby d_jdk_29_69_0) rfl ?_
    refine XS.iloadN X0.here hx rfl (hb hby d_jdk_29_69_1) rfl ?_
    refine XS.icmpNo X0.here hx rfl (hb hby d_jdk_29_69_2) rfl (flt (by decide)).2.2.1 ?_
    refine XS.iloadN X0.here hx rfl (hb hby d_jdk_29_69_5) rfl ?_
    show Steps p.tables e below (T0.setTop (mkF m 6 #[vi (Int32.ofNat 16), vi 34] [(.int (Int32.ofNat 16))])) _
    refine XS.goto X0.here hx rfl (pc0 := 6) (pc' := 10) rfl (hb hby d_jdk_29_69_6) (by decide) (by decide) ?_
    exact k
  exact OEnds.ret X0 hx hret hlk rfl (Or.inl ⟨rfl, by simp, _, rfl⟩) (hb hby d_jdk_29_69_10) (by decide) (by decide) (by rw [e0]; exact ⟨rfl, N0, rfl⟩)
theorem cp34 {vs : List Value} {d : Value} (h : vs.length = 16) : (List.replicate 34 (Value.int 0)).take (0 : Int32).toNatClampNeg ++ (List.range (Int32.ofNat 16).toNatClampNeg).map (fun i => vs.getD ((0 : Int32).toNatClampNeg + i) d) ++ (List.replicate 34 (Value.int 0)).drop ((0 : Int32).toNatClampNeg + (Int32.ofNat 16).toNatClampNeg) = (vs ++ z18) := by
  have e : (0 : Int32).toNatClampNeg = 0 := rfl
  have e2 : (Int32.ofNat 16).toNatClampNeg = 16 := rfl
  simp only [e, e2, Nat.zero_add, range_getD h, List.take_zero, List.nil_append]
  rw [List.drop_replicate]; rfl
-- java/util/Arrays.copyOf:([BI)[B
def Q_copyOf (Z : State) (t : Addr) (k : ClassId) (vs : List Value) (h0 : Heap) (v : Option Value) (h : Heap) (L : List Loc) : Prop := ∃ (r : Addr) (kr : ClassId), v = some (.ref r) ∧ Fr Z.heap.size L ∧ Keep h0 h [] ∧ h0.size ≤ r ∧ Arv Z h r kr .byte (34 : Int32) (vs ++ z18) (.int 0)
theorem ef_copyOf (m : MethodId) (t : Addr) : entryFrame m #[(.ref t), (.int 34)] 3 = mkF m 0 #[vr t, vi 34, .unset] [] := by first | (simp [entryFrame, mkF, argsToLocals, Value.category, vi, vj, vr]; done) | rfl
theorem pn_5 : plainName "java/util/Arrays" = true := by first | (simp [plainName, overriddenIn]; done) | decide +kernel
theorem d_jdk_65_121_0 : decode jdk_65_method_121_code 0 = .ok (.iload_n 1, 1) := by decide +kernel
theorem d_jdk_65_121_1 : decode jdk_65_method_121_code 1 = .ok (.aload_n 0, 1) := by decide +kernel
theorem d_jdk_65_121_2 : decode jdk_65_method_121_code 2 = .ok (.arraylength, 1) := by decide +kernel
theorem d_jdk_65_121_3 : decode jdk_65_method_121_code 3 = .ok (.if_icmp .ne 11, 3) := by decide +kernel
theorem d_jdk_65_121_14 : decode jdk_65_method_121_code 14 = .ok (.iload_n 1, 1) := by decide +kernel
theorem d_jdk_65_121_15 : decode jdk_65_method_121_code 15 = .ok (.newarray .byte, 2) := by decide +kernel
theorem d_jdk_65_121_17 : decode jdk_65_method_121_code 17 = .ok (.astore_n 2, 1) := by decide +kernel
theorem d_jdk_65_121_18 : decode jdk_65_method_121_code 18 = .ok (.aload_n 0, 1) := by decide +kernel
theorem d_jdk_65_121_19 : decode jdk_65_method_121_code 19 = .ok (.iconst 0, 1) := by decide +kernel
theorem d_jdk_65_121_20 : decode jdk_65_method_121_code 20 = .ok (.aload_n 2, 1) := by decide +kernel
theorem d_jdk_65_121_21 : decode jdk_65_method_121_code 21 = .ok (.iconst 0, 1) := by decide +kernel
theorem d_jdk_65_121_22 : decode jdk_65_method_121_code 22 = .ok (.aload_n 0, 1) := by decide +kernel
theorem d_jdk_65_121_23 : decode jdk_65_method_121_code 23 = .ok (.arraylength, 1) := by decide +kernel
theorem d_jdk_65_121_24 : decode jdk_65_method_121_code 24 = .ok (.iload_n 1, 1) := by decide +kernel
theorem d_jdk_65_121_25 : decode jdk_65_method_121_code 25 = .ok (.invokestatic 304, 3) := by decide +kernel
theorem d_jdk_65_121_28 : decode jdk_65_method_121_code 28 = .ok (.invokestatic 150, 3) := by decide +kernel
theorem d_jdk_65_121_31 : decode jdk_65_method_121_code 31 = .ok (.aload_n 2, 1) := by decide +kernel
theorem d_jdk_65_121_32 : decode jdk_65_method_121_code 32 = .ok (.areturn, 1) := by decide +kernel
set_option maxRecDepth 65536 in
set_option maxHeartbeats 40000000 in
theorem rm_copyOf (l : Launch) {Z : State} {a0 : Array Value} (hD : Wd Z a0) (t : Addr) (k : ClassId) (vs : List Value) {h0 : Heap} (O0 : Ext Z.heap h0) (V_t : Arv Z h0 t k .byte (Int32.ofNat 16) vs (.int 0)) (hvs : vs.length = 16) :
    Con l Z (⟨"java/util/Arrays", "copyOf", "([BI)[B"⟩ : MethodName) jdk_65_method_121_code 3 (some (.array .byte)) [] ({ frames := 1, cells := 1, slots := 34, locals := 18 } : Room) #[(.ref t), (.int 34)] h0 (Q_copyOf Z t k vs h0) := by
  refine Con.walk (plainFor_of_name pn_5) ?_
  intro p e s m below meth c T0 X0 hx hZ hby hml hown hnm hret hlk e0
  obtain ⟨hw, ⟨cz, S_CS, hcz⟩, ⟨sf, S_SF, hsf⟩, ⟨d1, d2, kd1, kd2, S_D1, S_D2, V_D1, V_D2⟩⟩ := id hD
  have N0 := Fr.nil Z.heap.size
  have K0 : Keep h0 h0 [] := Keep.refl _ _
  refine OEnds.cast (ef_copyOf m t) ?_
  refine OEnds.st (S' := T0.setTop (mkF m 2 #[vr t, vi 34, .unset] [(.ref t), (.int 34)])) (fun _ k => ?_) ?_
  · refine XS.iloadN X0.here hx rfl (hb hby d_jdk_65_121_0) rfl ?_
    refine XS.aloadN X0.here hx rfl (hb hby d_jdk_65_121_1) rfl rfl ?_
    exact k
  obtain ⟨cl_t_1, Ar_t_1, q_t_1, S_t_1, N_t_1, H_t_1, G_t_1⟩ := id V_t
  refine OEnds.st (S' := T0.setTop (mkF m 3 #[vr t, vi 34, .unset] [(.int (Int32.ofNat 16)), (.int 34)])) (fun tg kq9 => X0.arraylength hx (by rw [e0]; exact Ar_t_1.1) (State.isArrayOf_alike hZ.alike Ar_t_1.2.1) (g := (mkF m 2 #[vr t, vi 34, .unset] [(.ref t), (.int 34)])) rfl rfl (hb hby d_jdk_65_121_2) tg (by rw [len_of S_t_1 N_t_1]; exact kq9)) ?_
  refine OEnds.st (S' := T0.setTop (mkF m 15 #[vr t, vi 34, .unset] [(.int 34)])) (fun _ k => ?_) ?_
  · refine XS.icmpYes X0.here hx rfl (pc0 := 3) (pc' := 14) rfl (hb hby d_jdk_65_121_3) rfl (feq (by decide)).2 (by decide) (by decide) ?_
    refine XS.iloadN X0.here hx rfl (hb hby d_jdk_65_121_14) rfl ?_
    exact k
  obtain ⟨T2, h2, k2, X2, e2, E2, A2, st2⟩ := newP X0 hx hZ (wq hw 15 rfl) e0 (g := (mkF m 15 #[vr t, vi 34, .unset] [(.int 34)])) rfl (hb hby d_jdk_65_121_15) rfl (by decide) (cap := 34) (by decide) (by decide) (by decide) (by decide)
  obtain ⟨b2, g2⟩ : ∃ z, z = h0.size := ⟨_, rfl⟩
  rw [← g2] at A2 st2
  refine OEnds.st st2 ?_
  have ne_t_b2 : t ≠ b2 := Nat.ne_of_lt (Nat.lt_of_lt_of_le V_t.lt (Nat.le_of_eq g2.symm))
  have ge_b2 : Z.heap.size ≤ b2 := Nat.le_trans O0.1 (Nat.le_of_eq g2.symm)
  have sz_b2 : h0.size ≤ b2 := Nat.le_trans K0.1 (Nat.le_of_eq g2.symm)
  replace V_t := V_t.ext E2
  replace O0 : Ext Z.heap h2 := ext_trans O0 E2
  replace K0 : Keep h0 h2 [] := K0.ext E2
  have V_b2 : Arv Z h2 b2 k2 .byte (34 : Int32) [(.int 0), (.int 0), (.int 0), (.int 0), (.int 0), (.int 0), (.int 0), (.int 0), (.int 0), (.int 0), (.int 0), (.int 0), (.int 0), (.int 0), (.int 0), (.int 0), (.int 0), (.int 0), (.int 0), (.int 0), (.int 0), (.int 0), (.int 0), (.int 0), (.int 0), (.int 0), (.int 0), (.int 0), (.int 0), (.int 0), (.int 0), (.int 0), (.int 0), (.int 0)] (.int 0) := (Arv.new A2 (by decide)).pad (pad_rep [] (.int 0) 34)
  refine OEnds.st (S' := T2.setTop (mkF m 23 #[vr t, vi 34, vr b2] [(.ref t), (.int 0), (.ref b2), (.int 0), (.ref t)])) (fun _ k => ?_) ?_
  · refine XS.astoreN X2.here hx rfl (hb hby d_jdk_65_121_17) rfl rfl (l' := #[vr t, vi 34, vr b2]) rfl ?_
    refine XS.aloadN X2.here hx rfl (hb hby d_jdk_65_121_18) rfl rfl ?_
    refine XS.iconst X2.here hx rfl (hb hby d_jdk_65_121_19) ?_
    refine XS.aloadN X2.here hx rfl (hb hby d_jdk_65_121_20) rfl rfl ?_
    show Steps p.tables e below (T2.setTop (mkF m 21 #[vr t, vi 34, vr b2] [(.ref b2), (.int 0), (.ref t)])) _
    refine XS.iconst X2.here hx rfl (hb hby d_jdk_65_121_21) ?_
    refine XS.aloadN X2.here hx rfl (hb hby d_jdk_65_121_22) rfl rfl ?_
    exact k
  obtain ⟨cl_t_3, Ar_t_3, q_t_3, S_t_3, N_t_3, H_t_3, G_t_3⟩ := id V_t
  refine OEnds.st (S' := T2.setTop (mkF m 24 #[vr t, vi 34, vr b2] [(.int (Int32.ofNat 16)), (.int 0), (.ref b2), (.int 0), (.ref t)])) (fun tg kq9 => X2.arraylength hx (by rw [e2]; exact Ar_t_3.1) (State.isArrayOf_alike hZ.alike Ar_t_3.2.1) (g := (mkF m 23 #[vr t, vi 34, vr b2] [(.ref t), (.int 0), (.ref b2), (.int 0), (.ref t)])) rfl rfl (hb hby d_jdk_65_121_23) tg (by rw [len_of S_t_3 N_t_3]; exact kq9)) ?_
  refine OEnds.st (S' := T2.setTop (mkF m 25 #[vr t, vi 34, vr b2] [(.int 34), (.int (Int32.ofNat 16)), (.int 0), (.ref b2), (.int 0), (.ref t)])) (fun _ k => ?_) ?_
  · refine XS.iloadN X2.here hx rfl (hb hby d_jdk_65_121_24) rfl ?_
    exact k
  obtain ⟨_, T4, h4, L4, X4, e4, hQ4, st4⟩ := callC X2 hx hZ hown (wq hw 152 rfl) (wq hw 153 rfl) (wq hw 144 rfl) (wq hw 154 rfl) (by decide) (kc := 0) (ks := 0) (Con.sb (W := 4) (rm_min16 l hD  O0) hZ (wq hw 154 rfl) (wq hw 144 rfl) (by decide) (by decide)) e2 (g := (mkF m 25 #[vr t, vi 34, vr b2] [(.int 34), (.int (Int32.ofNat 16)), (.int 0), (.ref b2), (.int 0), (.ref t)])) rfl (by rw [hml]; rfl) (argsL := [(.int (Int32.ofNat 16)), (.int 34)]) (rest := [(.int 0), (.ref b2), (.int 0), (.ref t)]) (lenOf pd_7 rfl) rfl (by show 2 * 0 + _ ≤ _; exact Nat.le_of_eq rfl) (hb hby d_jdk_65_121_25) (by decide) (by decide)
  obtain ⟨rfl, Nq4, Hq4⟩ := hQ4
  refine OEnds.st st4 ?_
  replace N0 := Fr.app N0 Nq4
  replace e4 := e4.trans Hq4
  replace V_b2 : Arv Z h2 b2 k2 .byte (34 : Int32) (List.replicate 34 (.int 0)) (.int 0) := V_b2
  obtain ⟨T5, h5, L5, X5, e5, Nw5, Kq5, V5, st5⟩ := cpA X4 hx hZ hown (wq hw 155 rfl) (wq hw 109 rfl) (wq hw 107 rfl) (wq hw 108 rfl) e4 V_t V_b2 (us := _) (Or.inl ⟨rfl, rfl⟩) (by decide) (by decide) (by decide) (by decide) (by decide) rfl (by rw [List.length_replicate]; decide) N0 ge_b2 (g := (mkF m 28 #[vr t, vi 34, vr b2] [(.int (Int32.ofNat 16)), (.int 0), (.ref b2), (.int 0), (.ref t)])) rfl (by rw [hml]; rfl) rfl (hb hby d_jdk_65_121_28) (by decide) (W := 0) (by show 2 * 0 + _ ≤ _; exact Nat.le_of_eq rfl) (by decide)
  replace N0 := Nw5
  refine OEnds.st st5 ?_
  replace V_t := V_t.keep Kq5 (ninS ne_t_b2 nin0)
  replace O0 : Ext Z.heap h5 := ext_keep O0 Kq5 (allS ge_b2 all0)
  replace K0 : Keep h0 h5 [] := K0.trans Kq5 (allS (Or.inr sz_b2) all0)
  have V_b2_5 : Arv Z h5 b2 k2 .byte (34 : Int32) (vs ++ z18) (.int 0) := by rw [← (cp34 hvs)]; exact V5
  refine OEnds.st (S' := T5.setTop (mkF m 32 #[vr t, vi 34, vr b2] [(.ref b2)])) (fun _ k => ?_) ?_
  · refine XS.aloadN X5.here hx rfl (hb hby d_jdk_65_121_31) rfl rfl ?_
    exact k
  exact OEnds.ret X5 hx hret hlk rfl (Or.inr (Or.inr (Or.inr (Or.inr ⟨rfl, rfl, rfl⟩)))) (hb hby d_jdk_65_121_32) (by decide) (by decide) (by rw [e5]; exact ⟨b2, _, rfl, N0, K0, sz_b2, V_b2_5⟩)
-- java/lang/AbstractStringBuilder.ensureCapacityInternal:(I)V
def Q_ensureG (Z : State) (b : Addr) (mn : Nat) (t : Addr) (k : ClassId) (n : Nat) (vs : List Value) (h0 : Heap) (v : Option Value) (h : Heap) (L : List Loc) : Prop := ∃ (r : Addr) (kr : ClassId), v = none ∧ Fr Z.heap.size L ∧ Keep h0 h [b] ∧ h0.size ≤ r ∧ Exa Z h b "java/lang/StringBuilder" ∧ Fld Z h b "java/lang/AbstractStringBuilder" "coder" "B" (.int 0) ∧ Fld Z h b "java/lang/AbstractStringBuilder" "count" "I" (.int (Int32.ofNat n)) ∧ Fld Z h b "java/lang/AbstractStringBuilder" "value" "[B" (.ref r) ∧ Arv Z h r kr .byte (Int32.ofNat 34) (vs ++ z18) (.int 0)
theorem ef_ensureG (m : MethodId) (b : Addr) : entryFrame m #[(.ref b), (.int (Int32.ofNat mn))] 3 = mkF m 0 #[vr b, vi (Int32.ofNat mn), .unset] [] := by first | (simp [entryFrame, mkF, argsToLocals, Value.category, vi, vj, vr]; done) | rfl
theorem d_jdk_68_9_17 : decode jdk_68_method_9_code 17 = .ok (.aload_n 0, 1) := by decide +kernel
theorem d_jdk_68_9_18 : decode jdk_68_method_9_code 18 = .ok (.aload_n 0, 1) := by decide +kernel
theorem d_jdk_68_9_19 : decode jdk_68_method_9_code 19 = .ok (.getfield 15, 3) := by decide +kernel
theorem d_jdk_68_9_22 : decode jdk_68_method_9_code 22 = .ok (.aload_n 0, 1) := by decide +kernel
theorem d_jdk_68_9_23 : decode jdk_68_method_9_code 23 = .ok (.iload_n 1, 1) := by decide +kernel
theorem d_jdk_68_9_24 : decode jdk_68_method_9_code 24 = .ok (.invokevirtual 104, 3) := by decide +kernel
theorem pd_9 : parseMethodDescriptor "(I)I" = some ⟨[.int], some .int⟩ := by decide +kernel
theorem d_jdk_68_9_27 : decode jdk_68_method_9_code 27 = .ok (.aload_n 0, 1) := by decide +kernel
theorem d_jdk_68_9_28 : decode jdk_68_method_9_code 28 = .ok (.getfield 22, 3) := by decide +kernel
theorem d_jdk_68_9_31 : decode jdk_68_method_9_code 31 = .ok (.ishl, 1) := by decide +kernel
theorem d_jdk_68_9_32 : decode jdk_68_method_9_code 32 = .ok (.invokestatic 108, 3) := by decide +kernel
theorem pd_10 : parseMethodDescriptor "([BI)[B" = some ⟨[(.array .byte), .int], some (.array .byte)⟩ := by decide +kernel
theorem d_jdk_68_9_35 : decode jdk_68_method_9_code 35 = .ok (.putfield 15, 3) := by decide +kernel
set_option maxRecDepth 65536 in
set_option maxHeartbeats 40000000 in
theorem rm_ensureG (l : Launch) {Z : State} {a0 : Array Value} (hD : Wd Z a0) (b : Addr) (mn : Nat) (t : Addr) (k : ClassId) (n : Nat) (vs : List Value) {h0 : Heap} (O0 : Ext Z.heap h0) (E_b : Exa Z h0 b "java/lang/StringBuilder") (F_coder_b : Fld Z h0 b "java/lang/AbstractStringBuilder" "coder" "B" (.int 0)) (F_count_b : Fld Z h0 b "java/lang/AbstractStringBuilder" "count" "I" (.int (Int32.ofNat n))) (F_value_b : Fld Z h0 b "java/lang/AbstractStringBuilder" "value" "[B" (.ref t)) (V_t : Arv Z h0 t k .byte (Int32.ofNat 16) vs (.int 0)) (hvs : vs.length = 16) (hmn : 16 < mn) (hmn2 : mn ≤ 33) (ge_b : Z.heap.size ≤ b) :
    Con l Z (⟨"java/lang/AbstractStringBuilder", "ensureCapacityInternal", "(I)V"⟩ : MethodName) jdk_68_method_9_code 3 none [] ({ frames := 3, cells := 1, slots := 34, locals := 48 } : Room) #[(.ref b), (.int (Int32.ofNat mn))] h0 (Q_ensureG Z b mn t k n vs h0) := by
  refine Con.walk (plainFor_of_name pn_2) ?_
  intro p e s m below meth c T0 X0 hx hZ hby hml hown hnm hret hlk e0
  obtain ⟨hw, ⟨cz, S_CS, hcz⟩, ⟨sf, S_SF, hsf⟩, ⟨d1, d2, kd1, kd2, S_D1, S_D2, V_D1, V_D2⟩⟩ := id hD
  have N0 := Fr.nil Z.heap.size
  have K0 : Keep h0 h0 [b] := Keep.refl _ _
  refine OEnds.cast (ef_ensureG m b) ?_
  have hgt : ¬ ¬ (0 : Int32) < (Int32.ofNat mn) - Int32.ofNat 16 := by
    rw [ofn_sub (by omega), Classical.not_not]; exact (ofn_lt (n := 0) (by decide) (by omega)).mpr (by omega)
  refine OEnds.st (S' := T0.setTop (mkF m 1 #[vr b, vi (Int32.ofNat mn), .unset] [(.ref b)])) (fun _ k => ?_) ?_
  · refine XS.aloadN X0.here hx rfl (hb hby d_jdk_68_9_0) rfl rfl ?_
    exact k
  obtain ⟨T1, X1, e1, st1⟩ := getF X0 hx hZ hown (host := "") (Or.inl (wq hw 57 rfl)) Via.refl e0 F_value_b (g := (mkF m 1 #[vr b, vi (Int32.ofNat mn), .unset] [(.ref b)])) rfl rfl (hb hby d_jdk_68_9_1)
  refine OEnds.st st1 ?_
  obtain ⟨cl_t_2, Ar_t_2, q_t_2, S_t_2, N_t_2, H_t_2, G_t_2⟩ := id V_t
  refine OEnds.st (S' := T1.setTop (mkF m 5 #[vr b, vi (Int32.ofNat mn), .unset] [(.int (Int32.ofNat 16))])) (fun tg kq9 => X1.arraylength hx (by rw [e1]; exact Ar_t_2.1) (State.isArrayOf_alike hZ.alike Ar_t_2.2.1) (g := (mkF m 4 #[vr b, vi (Int32.ofNat mn), .unset] [(.ref t)])) rfl rfl (hb hby d_jdk_68_9_4) tg (by rw [len_of S_t_2 N_t_2]; exact kq9)) ?_
  refine OEnds.st (S' := T1.setTop (mkF m 6 #[vr b, vi (Int32.ofNat mn), .unset] [(.ref b), (.int (Int32.ofNat 16))])) (fun _ k => ?_) ?_
  · refine XS.aloadN X1.here hx rfl (hb hby d_jdk_68_9_5) rfl rfl ?_
    exact k
  obtain ⟨T3, X3, e3, st3⟩ := getF X1 hx hZ hown (host := "") (Or.inl (wq hw 59 rfl)) Via.refl e1 F_coder_b (g := (mkF m 6 #[vr b, vi (Int32.ofNat mn), .unset] [(.ref b), (.int (Int32.ofNat 16))])) rfl rfl (hb hby d_jdk_68_9_6)
  refine OEnds.st st3 ?_
  refine OEnds.st (S' := T3.setTop (mkF m 19 #[vr b, vi (Int32.ofNat mn), vi (Int32.ofNat 16)] [(.ref b), (.ref b)])) (fun _ k => ?_) ?_
  · refine XS.ishr X3.here hx rfl (hb hby d_jdk_68_9_9) rfl ?_
    rw [shr0 (Int32.ofNat 16)]
    refine XS.istoreN X3.here hx rfl (hb hby d_jdk_68_9_10) rfl (l' := #[vr b, vi (Int32.ofNat mn), vi (Int32.ofNat 16)]) rfl ?_
    refine XS.iloadN X3.here hx rfl (hb hby d_jdk_68_9_11) rfl ?_
    refine XS.iloadN X3.here hx rfl (hb hby d_jdk_68_9_12) rfl ?_
    show Steps p.tables e below (T3.setTop (mkF m 13 #[vr b, vi (Int32.ofNat mn), vi (Int32.ofNat 16)] [(.int (Int32.ofNat 16)), (.int (Int32.ofNat mn))])) _
    refine XS.isub X3.here hx rfl (hb hby d_jdk_68_9_13) rfl ?_
    refine XS.ifNo X3.here hx rfl (hb hby d_jdk_68_9_14) rfl ((if0 _ _).trans (tlt (Classical.not_not.mp hgt)).2.2.2) ?_
    refine XS.aloadN X3.here hx rfl (hb hby d_jdk_68_9_17) rfl rfl ?_
    refine XS.aloadN X3.here hx rfl (hb hby d_jdk_68_9_18) rfl rfl ?_
    exact k
  obtain ⟨T4, X4, e4, st4⟩ := getF X3 hx hZ hown (host := "") (Or.inl (wq hw 57 rfl)) Via.refl e3 F_value_b (g := (mkF m 19 #[vr b, vi (Int32.ofNat mn), vi (Int32.ofNat 16)] [(.ref b), (.ref b)])) rfl rfl (hb hby d_jdk_68_9_19)
  refine OEnds.st st4 ?_
  refine OEnds.st (S' := T4.setTop (mkF m 24 #[vr b, vi (Int32.ofNat mn), vi (Int32.ofNat 16)] [(.int (Int32.ofNat mn)), (.ref b), (.ref t), (.ref b)])) (fun _ k => ?_) ?_
  · refine XS.aloadN X4.here hx rfl (hb hby d_jdk_68_9_22) rfl rfl ?_
    refine XS.iloadN X4.here hx rfl (hb hby d_jdk_68_9_23) rfl ?_
    exact k
  obtain ⟨_, T5, h5, L5, X5, e5, hQ5, st5⟩ := virtC X4 hx hZ (y := (⟨"java/lang/AbstractStringBuilder", "newCapacity", "(I)I"⟩ : MethodName)) (z := (⟨"java/lang/AbstractStringBuilder", "newCapacity", "(I)I"⟩ : MethodName)) hown (wq hw 133 rfl) (decl_of (wq hw 134 rfl) (wq hw 137 rfl)) (nf_sel (args := #[]) (mvT hZ (wq hw 88 rfl)) rfl) (wq hw 136 rfl) (wq hw 134 rfl) (by decide) (kc := 0) (ks := 0) (Con.sb (W := 2) (rm_newCap l hD b mn t k n vs O0 E_b F_coder_b F_count_b F_value_b V_t hmn hmn2) hZ (wq hw 137 rfl) (wq hw 53 rfl) (by decide) (by decide)) e4 E_b (g := (mkF m 24 #[vr b, vi (Int32.ofNat mn), vi (Int32.ofNat 16)] [(.int (Int32.ofNat mn)), (.ref b), (.ref t), (.ref b)])) rfl (by rw [hml]; rfl) (argsL := [(.int (Int32.ofNat mn))]) (rest := [(.ref t), (.ref b)]) (lenOf pd_9 rfl) rfl (by show 2 * 0 + _ ≤ _; exact Nat.le_of_eq rfl) (hb hby d_jdk_68_9_24) (by decide) (by decide)
  obtain ⟨rfl, Nq5, Hq5⟩ := hQ5
  refine OEnds.st st5 ?_
  replace N0 := Fr.app N0 Nq5
  replace e5 := e5.trans Hq5
  refine OEnds.st (S' := T5.setTop (mkF m 28 #[vr b, vi (Int32.ofNat mn), vi (Int32.ofNat 16)] [(.ref b), (.int 34), (.ref t), (.ref b)])) (fun _ k => ?_) ?_
  · refine XS.aloadN X5.here hx rfl (hb hby d_jdk_68_9_27) rfl rfl ?_
    exact k
  obtain ⟨T6, X6, e6, st6⟩ := getF X5 hx hZ hown (host := "") (Or.inl (wq hw 59 rfl)) Via.refl e5 F_coder_b (g := (mkF m 28 #[vr b, vi (Int32.ofNat mn), vi (Int32.ofNat 16)] [(.ref b), (.int 34), (.ref t), (.ref b)])) rfl rfl (hb hby d_jdk_68_9_28)
  refine OEnds.st st6 ?_
  refine OEnds.st (S' := T6.setTop (mkF m 32 #[vr b, vi (Int32.ofNat mn), vi (Int32.ofNat 16)] [(.int 34), (.ref t), (.ref b)])) (fun _ k => ?_) ?_
  · refine XS.ishl X6.here hx rfl (hb hby d_jdk_68_9_31) rfl ?_
    exact k
  obtain ⟨_, T7, h7, L7, X7, e7, hQ7, st7⟩ := callC X6 hx hZ hown (wq hw 148 rfl) (wq hw 149 rfl) (wq hw 150 rfl) (wq hw 151 rfl) (by decide) (kc := 1) (ks := 34) (Con.sb (W := 1) (rm_copyOf l hD t k vs O0 V_t hvs) hZ (wq hw 151 rfl) (wq hw 150 rfl) (by decide) (by decide)) e6 (g := (mkF m 32 #[vr b, vi (Int32.ofNat mn), vi (Int32.ofNat 16)] [(.int 34), (.ref t), (.ref b)])) rfl (by rw [hml]; rfl) (argsL := [(.ref t), (.int 34)]) (rest := [(.ref b)]) (lenOf pd_10 rfl) rfl (by show 2 * 0 + _ ≤ _; exact Nat.le_of_eq rfl) (hb hby d_jdk_68_9_32) (by decide) (by decide)
  obtain ⟨r7, kr7, rfl, Nq7, Kq7, szq7, V7⟩ := hQ7
  refine OEnds.st st7 ?_
  replace N0 := Fr.app N0 Nq7
  have ne_b_r7 : b ≠ r7 := Nat.ne_of_lt (Nat.lt_of_lt_of_le E_b.lt szq7)
  have ne_t_r7 : t ≠ r7 := Nat.ne_of_lt (Nat.lt_of_lt_of_le V_t.lt szq7)
  have ge_r7 : Z.heap.size ≤ r7 := Nat.le_trans O0.1 szq7
  have sz_r7 : h0.size ≤ r7 := Nat.le_trans K0.1 szq7
  replace E_b := E_b.keep Kq7
  replace F_coder_b := F_coder_b.keep Kq7 nin0
  replace F_count_b := F_count_b.keep Kq7 nin0
  replace F_value_b := F_value_b.keep Kq7 nin0
  replace V_t := V_t.keep Kq7 nin0
  replace O0 : Ext Z.heap h7 := ext_keep O0 Kq7 all0
  replace K0 : Keep h0 h7 [b] := K0.trans Kq7 all0
  have ne_t_b : t ≠ b := Ne.symm (ne_arv E_b (wq hw 44 rfl) V_t)
  obtain ⟨T8, h8, X8, e8, W8, st8⟩ := putF X7 hx hZ hown (host := "") (Or.inl (wq hw 57 rfl)) Via.refl e7 F_value_b E_b (Or.inl (wq hw 58 rfl)) (wq hw 44 rfl) (ty := (.array .byte)) (by decide) rfl rfl (g := (mkF m 35 #[vr b, vi (Int32.ofNat mn), vi (Int32.ofNat 16)] [(.ref r7), (.ref b)])) rfl rfl (hb hby d_jdk_68_9_35)
  refine OEnds.st st8 ?_
  replace E_b := E_b.wr W8
  replace F_coder_b := F_coder_b.other W8 (Or.inr (slot_ne (Or.inl (wq hw 60 rfl)) (Or.inl (wq hw 58 rfl)) (by decide) (t := .byte) (t' := (.array .byte)) (by decide) (by decide)))
  replace F_count_b := F_count_b.other W8 (Or.inr (slot_ne (Or.inl (wq hw 84 rfl)) (Or.inl (wq hw 58 rfl)) (by decide) (t := .int) (t' := (.array .byte)) (by decide) (by decide)))
  replace F_value_b := F_value_b.same W8
  replace V_t := V_t.other W8 ne_t_b
  replace V7 := V7.other W8 (Ne.symm ne_b_r7)
  replace O0 : Ext Z.heap h8 := ext_wr O0 W8 ge_b
  replace N0 := Fr.snoc X8 N0 ge_b
  replace K0 : Keep h0 h8 [b] := K0.wr W8 (Or.inl (List.mem_of_getElem? (i := 0) rfl))
  exact OEnds.retV X8 hx hret hlk (hb hby d_jdk_68_9_38) (by decide) (by decide) (by rw [e8]; exact ⟨r7, _, rfl, N0, K0, sz_r7, E_b, F_coder_b, F_count_b, F_value_b, V7⟩)
-- java/lang/AbstractStringBuilder.append:(Ljava/lang/String;)Ljava/lang/AbstractStringBuilder;
def Q_asbAppG (Z : State) (b : Addr) (a : Addr) (t : Addr) (k : ClassId) (n : Nat) (vs : List Value) (ts : Addr) (ks : ClassId) (sN : Nat) (us : List Value) (h0 : Heap) (v : Option Value) (h : Heap) (L : List Loc) : Prop := ∃ (r : Addr) (kr : ClassId), v = some (.ref b) ∧ Fr Z.heap.size L ∧ Keep h0 h [b] ∧ h0.size ≤ r ∧ Exa Z h b "java/lang/StringBuilder" ∧ Fld Z h b "java/lang/AbstractStringBuilder" "coder" "B" (.int 0) ∧ Fld Z h b "java/lang/AbstractStringBuilder" "count" "I" (.int (Int32.ofNat (n + sN))) ∧ Fld Z h b "java/lang/AbstractStringBuilder" "value" "[B" (.ref r) ∧ Arv Z h r kr .byte (Int32.ofNat 34) ((vs ++ z18).take n ++ us ++ (vs ++ z18).drop (n + sN)) (.int 0)
theorem ef_asbAppG (m : MethodId) (b : Addr) (a : Addr) : entryFrame m #[(.ref b), (.ref a)] 3 = mkF m 0 #[vr b, vr a, .unset] [] := by first | (simp [entryFrame, mkF, argsToLocals, Value.category, vi, vj, vr]; done) | rfl
set_option maxRecDepth 65536 in
set_option maxHeartbeats 40000000 in
theorem rm_asbAppG (l : Launch) {Z : State} {a0 : Array Value} (hD : Wd Z a0) (b : Addr) (a : Addr) (t : Addr) (k : ClassId) (n : Nat) (vs : List Value) (ts : Addr) (ks : ClassId) (sN : Nat) (us : List Value) {h0 : Heap} (O0 : Ext Z.heap h0) (E_b : Exa Z h0 b "java/lang/StringBuilder") (F_coder_b : Fld Z h0 b "java/lang/AbstractStringBuilder" "coder" "B" (.int 0)) (F_count_b : Fld Z h0 b "java/lang/AbstractStringBuilder" "count" "I" (.int (Int32.ofNat n))) (F_value_b : Fld Z h0 b "java/lang/AbstractStringBuilder" "value" "[B" (.ref t)) (V_t : Arv Z h0 t k .byte (Int32.ofNat 16) vs (.int 0)) (E_a : Exa Z h0 a "java/lang/String") (F_coder_a : Fld Z h0 a "java/lang/String" "coder" "B" (.int 0)) (F_value_a : Fld Z h0 a "java/lang/String" "value" "[B" (.ref ts)) (V_ts : Arv Z h0 ts ks .byte (Int32.ofNat sN) us (.int 0)) (hvs : vs.length = 16) (hus : us.length = sN) (hmn : 16 < n + sN) (hmn2 : n + sN ≤ 33) (ge_b : Z.heap.size ≤ b) :
    Con l Z (⟨"java/lang/AbstractStringBuilder", "append", "(Ljava/lang/String;)Ljava/lang/AbstractStringBuilder;"⟩ : MethodName) jdk_68_method_22_code 3 (some (.object "java/lang/AbstractStringBuilder")) [] ({ frames := 4, cells := 1, slots := 34, locals := 62 } : Room) #[(.ref b), (.ref a)] h0 (Q_asbAppG Z b a t k n vs ts ks sN us h0) := by
  refine Con.walk (plainFor_of_name pn_2) ?_
  intro p e s m below meth c T0 X0 hx hZ hby hml hown hnm hret hlk e0
  obtain ⟨hw, ⟨cz, S_CS, hcz⟩, ⟨sf, S_SF, hsf⟩, ⟨d1, d2, kd1, kd2, S_D1, S_D2, V_D1, V_D2⟩⟩ := id hD
  have N0 := Fr.nil Z.heap.size
  have K0 : Keep h0 h0 [b] := Keep.refl _ _
  refine OEnds.cast (ef_asbAppG m b a) ?_
  have hvg : (vs ++ z18).length = 34 := by simp [z18, hvs]
  refine OEnds.st (S' := T0.setTop (mkF m 10 #[vr b, vr a, .unset] [(.ref a)])) (fun _ k => ?_) ?_
  · refine XS.aloadN X0.here hx rfl (hb hby d_jdk_68_22_0) rfl rfl ?_
    refine XS.ifnonnullYes X0.here hx rfl (pc0 := 1) (pc' := 9) rfl (hb hby d_jdk_68_22_1) rfl (by decide) (by decide) ?_
    refine XS.aloadN X0.here hx rfl (hb hby d_jdk_68_22_9) rfl rfl ?_
    exact k
  obtain ⟨_, T1, h1, L1, X1, e1, hQ1, st1⟩ := virtC X0 hx hZ (y := (⟨"java/lang/String", "length", "()I"⟩ : MethodName)) (z := (⟨"java/lang/String", "length", "()I"⟩ : MethodName)) hown (wq hw 72 rfl) (wq hw 73 rfl) (nf_sel (args := #[]) (mvT hZ (wq hw 75 rfl)) rfl) (wq hw 75 rfl) (wq hw 74 rfl) (by decide) (kc := 0) (ks := 0) (Con.sb (W := 0) (rm_strLen l hD a ts ks (Int32.ofNat sN) us O0 E_a F_coder_a F_value_a V_ts) hZ (wq hw 76 rfl) (wq hw 3 rfl) (by decide) (by decide)) e0 E_a (g := (mkF m 10 #[vr b, vr a, .unset] [(.ref a)])) rfl (by rw [hml]; rfl) (argsL := []) (rest := []) (lenOf pd_4 rfl) rfl (by show 2 * 0 + _ ≤ _; exact Nat.le_of_eq rfl) (hb hby d_jdk_68_22_10) (by decide) (by decide)
  obtain ⟨rfl, Nq1, Hq1⟩ := hQ1
  refine OEnds.st st1 ?_
  replace N0 := Fr.app N0 Nq1
  replace e1 := e1.trans Hq1
  refine OEnds.st (S' := T1.setTop (mkF m 16 #[vr b, vr a, vi (Int32.ofNat sN)] [(.ref b), (.ref b)])) (fun _ k => ?_) ?_
  · refine XS.istoreN X1.here hx rfl (hb hby d_jdk_68_22_13) rfl (l' := #[vr b, vr a, vi (Int32.ofNat sN)]) rfl ?_
    refine XS.aloadN X1.here hx rfl (hb hby d_jdk_68_22_14) rfl rfl ?_
    refine XS.aloadN X1.here hx rfl (hb hby d_jdk_68_22_15) rfl rfl ?_
    exact k
  obtain ⟨T2, X2, e2, st2⟩ := getF X1 hx hZ hown (host := "") (Or.inl (wq hw 83 rfl)) Via.refl e1 F_count_b (g := (mkF m 16 #[vr b, vr a, vi (Int32.ofNat sN)] [(.ref b), (.ref b)])) rfl rfl (hb hby d_jdk_68_22_16)
  refine OEnds.st st2 ?_
  refine OEnds.st (S' := T2.setTop (mkF m 21 #[vr b, vr a, vi (Int32.ofNat sN)] [(.int ((Int32.ofNat n) + (Int32.ofNat sN))), (.ref b)])) (fun _ k => ?_) ?_
  · refine XS.iloadN X2.here hx rfl (hb hby d_jdk_68_22_19) rfl ?_
    refine XS.iadd X2.here hx rfl (hb hby d_jdk_68_22_20) rfl ?_
    exact k
  rw [ofn_add n sN]
  obtain ⟨_, T3, h3, L3, X3, e3, hQ3, st3⟩ := virtC X2 hx hZ (y := (⟨"java/lang/AbstractStringBuilder", "ensureCapacityInternal", "(I)V"⟩ : MethodName)) (z := (⟨"java/lang/AbstractStringBuilder", "ensureCapacityInternal", "(I)V"⟩ : MethodName)) hown (wq hw 85 rfl) (decl_of (wq hw 86 rfl) (wq hw 89 rfl)) (nf_sel (args := #[]) (mvT hZ (wq hw 88 rfl)) rfl) (wq hw 88 rfl) (wq hw 86 rfl) (by decide) (kc := 1) (ks := 34) (Con.sb (W := 0) (rm_ensureG l hD b (n + sN) t k n vs O0 E_b F_coder_b F_count_b F_value_b V_t hvs hmn hmn2 ge_b) hZ (wq hw 89 rfl) (wq hw 53 rfl) (by decide) (by decide)) e2 E_b (g := (mkF m 21 #[vr b, vr a, vi (Int32.ofNat sN)] [(.int (Int32.ofNat (n + sN))), (.ref b)])) rfl (by rw [hml]; rfl) (argsL := [(.int (Int32.ofNat (n + sN)))]) (rest := []) (lenOf pd_1 rfl) rfl (by show 2 * 0 + _ ≤ _; exact Nat.le_of_eq rfl) (hb hby d_jdk_68_22_21) (by decide) (by decide)
  obtain ⟨r3, kr3, rfl, Nq3, Kq3, szq3, Eq3, Fc3, Fn3, Fv3, V3⟩ := hQ3
  refine OEnds.st st3 ?_
  replace N0 := Fr.app N0 Nq3
  have ne_a_r3 : a ≠ r3 := Nat.ne_of_lt (Nat.lt_of_lt_of_le E_a.lt szq3)
  have ne_b_r3 : b ≠ r3 := Nat.ne_of_lt (Nat.lt_of_lt_of_le E_b.lt szq3)
  have ne_t_r3 : t ≠ r3 := Nat.ne_of_lt (Nat.lt_of_lt_of_le V_t.lt szq3)
  have ne_ts_r3 : ts ≠ r3 := Nat.ne_of_lt (Nat.lt_of_lt_of_le V_ts.lt szq3)
  have ge_r3 : Z.heap.size ≤ r3 := Nat.le_trans O0.1 szq3
  have sz_r3 : h0.size ≤ r3 := Nat.le_trans K0.1 szq3
  have ne_a_b : a ≠ b := ne_exa E_a E_b (by decide)
  have ne_t_b : t ≠ b := Ne.symm (ne_arv E_b (wq hw 44 rfl) V_t)
  have ne_ts_b : ts ≠ b := Ne.symm (ne_arv E_b (wq hw 44 rfl) V_ts)
  replace E_b := E_b.keep Kq3
  replace V_t := V_t.keep Kq3 (ninS ne_t_b nin0)
  replace E_a := E_a.keep Kq3
  replace F_coder_a := F_coder_a.keep Kq3 (ninS ne_a_b nin0)
  replace F_value_a := F_value_a.keep Kq3 (ninS ne_a_b nin0)
  replace V_ts := V_ts.keep Kq3 (ninS ne_ts_b nin0)
  replace O0 : Ext Z.heap h3 := ext_keep O0 Kq3 (allS ge_b all0)
  replace K0 : Keep h0 h3 [b] := K0.trans Kq3 (allS (Or.inl (List.mem_of_getElem? (i := 0) rfl)) all0)
  refine OEnds.st (S' := T3.setTop (mkF m 26 #[vr b, vr a, vi (Int32.ofNat sN)] [(.ref b), (.ref b)])) (fun _ k => ?_) ?_
  · refine XS.aloadN X3.here hx rfl (hb hby d_jdk_68_22_24) rfl rfl ?_
    refine XS.aloadN X3.here hx rfl (hb hby d_jdk_68_22_25) rfl rfl ?_
    exact k
  obtain ⟨T4, X4, e4, st4⟩ := getF X3 hx hZ hown (host := "") (Or.inl (wq hw 83 rfl)) Via.refl e3 Fn3 (g := (mkF m 26 #[vr b, vr a, vi (Int32.ofNat sN)] [(.ref b), (.ref b)])) rfl rfl (hb hby d_jdk_68_22_26)
  refine OEnds.st st4 ?_
  refine OEnds.st (S' := T4.setTop (mkF m 30 #[vr b, vr a, vi (Int32.ofNat sN)] [(.ref a), (.int (Int32.ofNat n)), (.ref b)])) (fun _ k => ?_) ?_
  · refine XS.aloadN X4.here hx rfl (hb hby d_jdk_68_22_29) rfl rfl ?_
    exact k
  obtain ⟨_, T5, h5, L5, X5, e5, hQ5, st5⟩ := virtC X4 hx hZ (y := (⟨"java/lang/AbstractStringBuilder", "putStringAt", "(ILjava/lang/String;)V"⟩ : MethodName)) (z := (⟨"java/lang/AbstractStringBuilder", "putStringAt", "(ILjava/lang/String;)V"⟩ : MethodName)) hown (wq hw 90 rfl) (decl_of (wq hw 91 rfl) (wq hw 94 rfl)) (nf_sel (args := #[]) (mvT hZ (wq hw 88 rfl)) rfl) (wq hw 93 rfl) (wq hw 91 rfl) (by decide) (kc := 0) (ks := 0) (Con.sb (W := 0) (rm_putStr l hD b a r3 kr3 34 n (vs ++ z18) ts ks sN us O0 E_b Fc3 Fn3 Fv3 V3 E_a F_coder_a F_value_a V_ts hvg (by decide) hus (by omega) ge_b ge_r3 ne_b_r3) hZ (wq hw 94 rfl) (wq hw 53 rfl) (by decide) (by decide)) e4 E_b (g := (mkF m 30 #[vr b, vr a, vi (Int32.ofNat sN)] [(.ref a), (.int (Int32.ofNat n)), (.ref b)])) rfl (by rw [hml]; rfl) (argsL := [(.int (Int32.ofNat n)), (.ref a)]) (rest := []) (lenOf pd_5 rfl) rfl (by show 2 * 0 + _ ≤ _; exact Nat.le_of_eq rfl) (hb hby d_jdk_68_22_30) (by decide) (by decide)
  obtain ⟨rfl, Nq5, Kq5, Eq5, Fc5, Fn5, Fv5, V5⟩ := hQ5
  refine OEnds.st st5 ?_
  replace N0 := Fr.app N0 Nq5
  replace E_b := E_b.keep Kq5
  replace V_t := V_t.keep Kq5 (ninS ne_t_r3 nin0)
  replace E_a := E_a.keep Kq5
  replace F_coder_a := F_coder_a.keep Kq5 (ninS ne_a_r3 nin0)
  replace F_value_a := F_value_a.keep Kq5 (ninS ne_a_r3 nin0)
  replace V_ts := V_ts.keep Kq5 (ninS ne_ts_r3 nin0)
  replace Fc3 := Fc3.keep Kq5 (ninS ne_b_r3 nin0)
  replace Fn3 := Fn3.keep Kq5 (ninS ne_b_r3 nin0)
  replace Fv3 := Fv3.keep Kq5 (ninS ne_b_r3 nin0)
  replace O0 : Ext Z.heap h5 := ext_keep O0 Kq5 (allS ge_r3 all0)
  replace K0 : Keep h0 h5 [b] := K0.trans Kq5 (allS (Or.inr sz_r3) all0)
  refine OEnds.st (S' := T5.setTop (mkF m 35 #[vr b, vr a, vi (Int32.ofNat sN)] [(.ref b), (.ref b)])) (fun _ k => ?_) ?_
  · refine XS.aloadN X5.here hx rfl (hb hby d_jdk_68_22_33) rfl rfl ?_
    refine XS.dup X5.here hx rfl (hb hby d_jdk_68_22_34) rfl rfl ?_
    exact k
  obtain ⟨T6, X6, e6, st6⟩ := getF X5 hx hZ hown (host := "") (Or.inl (wq hw 83 rfl)) Via.refl e5 Fn5 (g := (mkF m 35 #[vr b, vr a, vi (Int32.ofNat sN)] [(.ref b), (.ref b)])) rfl rfl (hb hby d_jdk_68_22_35)
  refine OEnds.st st6 ?_
  refine OEnds.st (S' := T6.setTop (mkF m 40 #[vr b, vr a, vi (Int32.ofNat sN)] [(.int ((Int32.ofNat n) + (Int32.ofNat sN))), (.ref b)])) (fun _ k => ?_) ?_
  · refine XS.iloadN X6.here hx rfl (hb hby d_jdk_68_22_38) rfl ?_
    refine XS.iadd X6.here hx rfl (hb hby d_jdk_68_22_39) rfl ?_
    exact k
  rw [ofn_add n sN]
  obtain ⟨T7, h7, X7, e7, W7, st7⟩ := putF X6 hx hZ hown (host := "") (Or.inl (wq hw 83 rfl)) Via.refl e6 Fn5 E_b (Or.inl (wq hw 84 rfl)) (wq hw 44 rfl) (ty := .int) (by decide) rfl rfl (g := (mkF m 40 #[vr b, vr a, vi (Int32.ofNat sN)] [(.int (Int32.ofNat (n + sN))), (.ref b)])) rfl rfl (hb hby d_jdk_68_22_40)
  refine OEnds.st st7 ?_
  replace E_b := E_b.wr W7
  replace V_t := V_t.other W7 ne_t_b
  replace E_a := E_a.wr W7
  replace F_coder_a := F_coder_a.other W7 (Or.inl ne_a_b)
  replace F_value_a := F_value_a.other W7 (Or.inl ne_a_b)
  replace V_ts := V_ts.other W7 ne_ts_b
  replace Fc5 := Fc5.other W7 (Or.inr (slot_ne (Or.inl (wq hw 60 rfl)) (Or.inl (wq hw 84 rfl)) (by decide) (t := .byte) (t' := .int) (by decide) (by decide)))
  replace Fn5 := Fn5.same W7
  replace Fv5 := Fv5.other W7 (Or.inr (slot_ne (Or.inl (wq hw 58 rfl)) (Or.inl (wq hw 84 rfl)) (by decide) (t := (.array .byte)) (t' := .int) (by decide) (by decide)))
  replace V5 := V5.other W7 (Ne.symm ne_b_r3)
  replace O0 : Ext Z.heap h7 := ext_wr O0 W7 ge_b
  replace N0 := Fr.snoc X7 N0 ge_b
  replace K0 : Keep h0 h7 [b] := K0.wr W7 (Or.inl (List.mem_of_getElem? (i := 0) rfl))
  refine OEnds.st (S' := T7.setTop (mkF m 44 #[vr b, vr a, vi (Int32.ofNat sN)] [(.ref b)])) (fun _ k => ?_) ?_
  · refine XS.aloadN X7.here hx rfl (hb hby d_jdk_68_22_43) rfl rfl ?_
    exact k
  exact OEnds.ret X7 hx hret hlk rfl (Or.inr (Or.inr (Or.inr (Or.inr ⟨rfl, rfl, rfl⟩)))) (hb hby d_jdk_68_22_44) (by decide) (by decide) (by rw [e7]; exact ⟨r3, _, rfl, N0, K0, sz_r3, E_b, Fc5, Fn5, Fv5, V5⟩)
-- java/lang/StringBuilder.append:(Ljava/lang/String;)Ljava/lang/StringBuilder;
def Q_sbAppG (Z : State) (b : Addr) (a : Addr) (t : Addr) (k : ClassId) (n : Nat) (vs : List Value) (ts : Addr) (ks : ClassId) (sN : Nat) (us : List Value) (h0 : Heap) (v : Option Value) (h : Heap) (L : List Loc) : Prop := ∃ (r : Addr) (kr : ClassId), v = some (.ref b) ∧ Fr Z.heap.size L ∧ Keep h0 h [b] ∧ h0.size ≤ r ∧ Exa Z h b "java/lang/StringBuilder" ∧ Fld Z h b "java/lang/AbstractStringBuilder" "coder" "B" (.int 0) ∧ Fld Z h b "java/lang/AbstractStringBuilder" "count" "I" (.int (Int32.ofNat (n + sN))) ∧ Fld Z h b "java/lang/AbstractStringBuilder" "value" "[B" (.ref r) ∧ Arv Z h r kr .byte (Int32.ofNat 34) ((vs ++ z18).take n ++ us ++ (vs ++ z18).drop (n + sN)) (.int 0)
theorem ef_sbAppG (m : MethodId) (b : Addr) (a : Addr) : entryFrame m #[(.ref b), (.ref a)] 2 = mkF m 0 #[vr b, vr a] [] := by first | (simp [entryFrame, mkF, argsToLocals, Value.category, vi, vj, vr]; done) | rfl
set_option maxRecDepth 65536 in
set_option maxHeartbeats 40000000 in
theorem rm_sbAppG (l : Launch) {Z : State} {a0 : Array Value} (hD : Wd Z a0) (b : Addr) (a : Addr) (t : Addr) (k : ClassId) (n : Nat) (vs : List Value) (ts : Addr) (ks : ClassId) (sN : Nat) (us : List Value) {h0 : Heap} (O0 : Ext Z.heap h0) (E_b : Exa Z h0 b "java/lang/StringBuilder") (F_coder_b : Fld Z h0 b "java/lang/AbstractStringBuilder" "coder" "B" (.int 0)) (F_count_b : Fld Z h0 b "java/lang/AbstractStringBuilder" "count" "I" (.int (Int32.ofNat n))) (F_value_b : Fld Z h0 b "java/lang/AbstractStringBuilder" "value" "[B" (.ref t)) (V_t : Arv Z h0 t k .byte (Int32.ofNat 16) vs (.int 0)) (E_a : Exa Z h0 a "java/lang/String") (F_coder_a : Fld Z h0 a "java/lang/String" "coder" "B" (.int 0)) (F_value_a : Fld Z h0 a "java/lang/String" "value" "[B" (.ref ts)) (V_ts : Arv Z h0 ts ks .byte (Int32.ofNat sN) us (.int 0)) (hvs : vs.length = 16) (hus : us.length = sN) (hmn : 16 < n + sN) (hmn2 : n + sN ≤ 33) (ge_b : Z.heap.size ≤ b) :
    Con l Z (⟨"java/lang/StringBuilder", "append", "(Ljava/lang/String;)Ljava/lang/StringBuilder;"⟩ : MethodName) jdk_67_method_7_code 2 (some (.object "java/lang/StringBuilder")) [] ({ frames := 5, cells := 1, slots := 34, locals := 76 } : Room) #[(.ref b), (.ref a)] h0 (Q_sbAppG Z b a t k n vs ts ks sN us h0) := by
  refine Con.walk (plainFor_of_name pn_3) ?_
  intro p e s m below meth c T0 X0 hx hZ hby hml hown hnm hret hlk e0
  obtain ⟨hw, ⟨cz, S_CS, hcz⟩, ⟨sf, S_SF, hsf⟩, ⟨d1, d2, kd1, kd2, S_D1, S_D2, V_D1, V_D2⟩⟩ := id hD
  have N0 := Fr.nil Z.heap.size
  have K0 : Keep h0 h0 [b] := Keep.refl _ _
  refine OEnds.cast (ef_sbAppG m b a) ?_
  refine OEnds.st (S' := T0.setTop (mkF m 2 #[vr b, vr a] [(.ref a), (.ref b)])) (fun _ k => ?_) ?_
  · refine XS.aloadN X0.here hx rfl (hb hby d_jdk_67_7_0) rfl rfl ?_
    refine XS.aloadN X0.here hx rfl (hb hby d_jdk_67_7_1) rfl rfl ?_
    exact k
  obtain ⟨_, T1, h1, L1, X1, e1, hQ1, st1⟩ := superC X0 hx hZ (y := (⟨"java/lang/AbstractStringBuilder", "append", "(Ljava/lang/String;)Ljava/lang/AbstractStringBuilder;"⟩ : MethodName)) hown (wq hw 67 rfl) (same_of (nf_sel (args := a0) (wq hw 88 rfl) rfl) (wq hw 68 rfl) (by decide)) (wq hw 68 rfl) (wq hw 69 rfl) (wq hw 71 rfl) (by decide) (kc := 1) (ks := 34) (Con.sb (W := 0) (rm_asbAppG l hD b a t k n vs ts ks sN us O0 E_b F_coder_b F_count_b F_value_b V_t E_a F_coder_a F_value_a V_ts hvs hus hmn hmn2 ge_b) hZ (wq hw 71 rfl) (wq hw 53 rfl) (by decide) (by decide)) e0 E_b (g := (mkF m 2 #[vr b, vr a] [(.ref a), (.ref b)])) rfl (by rw [hml]; rfl) (argsL := [(.ref a)]) (rest := []) (lenOf pd_6 rfl) rfl (by show 2 * 0 + _ ≤ _; exact Nat.le_of_eq rfl) (hb hby d_jdk_67_7_2) (by decide) (by decide)
  obtain ⟨r1, kr1, rfl, Nq1, Kq1, szq1, R1⟩ := hQ1
  refine OEnds.st st1 ?_
  replace N0 := Fr.app N0 Nq1
  have ne_a_r1 : a ≠ r1 := Nat.ne_of_lt (Nat.lt_of_lt_of_le E_a.lt szq1)
  have ne_b_r1 : b ≠ r1 := Nat.ne_of_lt (Nat.lt_of_lt_of_le E_b.lt szq1)
  have ne_t_r1 : t ≠ r1 := Nat.ne_of_lt (Nat.lt_of_lt_of_le V_t.lt szq1)
  have ne_ts_r1 : ts ≠ r1 := Nat.ne_of_lt (Nat.lt_of_lt_of_le V_ts.lt szq1)
  have ge_r1 : Z.heap.size ≤ r1 := Nat.le_trans O0.1 szq1
  have sz_r1 : h0.size ≤ r1 := Nat.le_trans K0.1 szq1
  have ne_a_b : a ≠ b := ne_exa E_a E_b (by decide)
  have ne_t_b : t ≠ b := Ne.symm (ne_arv E_b (wq hw 44 rfl) V_t)
  have ne_ts_b : ts ≠ b := Ne.symm (ne_arv E_b (wq hw 44 rfl) V_ts)
  replace E_b := E_b.keep Kq1
  replace V_t := V_t.keep Kq1 (ninS ne_t_b nin0)
  replace E_a := E_a.keep Kq1
  replace F_coder_a := F_coder_a.keep Kq1 (ninS ne_a_b nin0)
  replace F_value_a := F_value_a.keep Kq1 (ninS ne_a_b nin0)
  replace V_ts := V_ts.keep Kq1 (ninS ne_ts_b nin0)
  replace O0 : Ext Z.heap h1 := ext_keep O0 Kq1 (allS ge_b all0)
  replace K0 : Keep h0 h1 [b] := K0.trans Kq1 (allS (Or.inl (List.mem_of_getElem? (i := 0) rfl)) all0)
  refine OEnds.st (S' := T1.setTop (mkF m 7 #[vr b, vr a] [(.ref b)])) (fun _ k => ?_) ?_
  · refine XS.pop X1.here hx rfl (hb hby d_jdk_67_7_5) rfl rfl ?_
    refine XS.aloadN X1.here hx rfl (hb hby d_jdk_67_7_6) rfl rfl ?_
    exact k
  exact OEnds.ret X1 hx hret hlk rfl (Or.inr (Or.inr (Or.inr (Or.inr ⟨rfl, rfl, rfl⟩)))) (hb hby d_jdk_67_7_7) (by decide) (by decide) (by rw [e1]; exact ⟨r1, kr1, rfl, N0, K0, sz_r1, R1⟩)
-- java/lang/Integer.stringSize:(I)I
def Q_strSize (Z : State) (x : Int32) (A sg : Nat) (h0 : Heap) (v : Option Value) (h : Heap) (L : List Loc) : Prop := ∃ d : Nat, Dig A d ∧ v = some (.int (Int32.ofNat (d + sg))) ∧ Fr Z.heap.size L ∧ h = h0
theorem ef_strSize (m : MethodId) (x : Int32) : entryFrame m #[(.int x)] 4 = mkF m 0 #[vi x, .unset, .unset, .unset] [] := by first | (simp [entryFrame, mkF, argsToLocals, Value.category, vi, vj, vr]; done) | rfl
theorem pn_6 : plainName "java/lang/Integer" = true := by first | (simp [plainName, overriddenIn]; done) | decide +kernel
theorem d_jdk_33_13_0 : decode jdk_33_method_13_code 0 = .ok (.iconst 1, 1) := by decide +kernel
theorem d_jdk_33_13_1 : decode jdk_33_method_13_code 1 = .ok (.istore_n 1, 1) := by decide +kernel
theorem d_jdk_33_13_2 : decode jdk_33_method_13_code 2 = .ok (.iload_n 0, 1) := by decide +kernel
theorem d_jdk_33_13_3 : decode jdk_33_method_13_code 3 = .ok (.ifCond .lt 8, 3) := by decide +kernel
theorem d_jdk_33_13_6 : decode jdk_33_method_13_code 6 = .ok (.iconst 0, 1) := by decide +kernel
theorem d_jdk_33_13_7 : decode jdk_33_method_13_code 7 = .ok (.istore_n 1, 1) := by decide +kernel
theorem d_jdk_33_13_8 : decode jdk_33_method_13_code 8 = .ok (.iload_n 0, 1) := by decide +kernel
theorem d_jdk_33_13_9 : decode jdk_33_method_13_code 9 = .ok (.ineg, 1) := by decide +kernel
theorem d_jdk_33_13_10 : decode jdk_33_method_13_code 10 = .ok (.istore_n 0, 1) := by decide +kernel
theorem d_jdk_33_13_11 : decode jdk_33_method_13_code 11 = .ok (.bipush (-10), 2) := by decide +kernel
theorem d_jdk_33_13_13 : decode jdk_33_method_13_code 13 = .ok (.istore_n 2, 1) := by decide +kernel
theorem d_jdk_33_13_14 : decode jdk_33_method_13_code 14 = .ok (.iconst 1, 1) := by decide +kernel
theorem d_jdk_33_13_15 : decode jdk_33_method_13_code 15 = .ok (.istore_n 3, 1) := by decide +kernel
theorem d_jdk_33_13_16 : decode jdk_33_method_13_code 16 = .ok (.iload_n 3, 1) := by decide +kernel
theorem d_jdk_33_13_17 : decode jdk_33_method_13_code 17 = .ok (.bipush 10, 2) := by decide +kernel
theorem d_jdk_33_13_19 : decode jdk_33_method_13_code 19 = .ok (.if_icmp .ge 23, 3) := by decide +kernel
theorem d_jdk_33_13_22 : decode jdk_33_method_13_code 22 = .ok (.iload_n 0, 1) := by decide +kernel
theorem d_jdk_33_13_23 : decode jdk_33_method_13_code 23 = .ok (.iload_n 2, 1) := by decide +kernel
theorem d_jdk_33_13_24 : decode jdk_33_method_13_code 24 = .ok (.if_icmp .le 7, 3) := by decide +kernel
theorem d_jdk_33_13_27 : decode jdk_33_method_13_code 27 = .ok (.iload_n 3, 1) := by decide +kernel
theorem d_jdk_33_13_28 : decode jdk_33_method_13_code 28 = .ok (.iload_n 1, 1) := by decide +kernel
theorem d_jdk_33_13_29 : decode jdk_33_method_13_code 29 = .ok (.iadd, 1) := by decide +kernel
theorem d_jdk_33_13_30 : decode jdk_33_method_13_code 30 = .ok (.ireturn, 1) := by decide +kernel
theorem d_jdk_33_13_31 : decode jdk_33_method_13_code 31 = .ok (.bipush 10, 2) := by decide +kernel
theorem d_jdk_33_13_33 : decode jdk_33_method_13_code 33 = .ok (.iload_n 2, 1) := by decide +kernel
theorem d_jdk_33_13_34 : decode jdk_33_method_13_code 34 = .ok (.imul, 1) := by decide +kernel
theorem d_jdk_33_13_35 : decode jdk_33_method_13_code 35 = .ok (.istore_n 2, 1) := by decide +kernel
theorem d_jdk_33_13_36 : decode jdk_33_method_13_code 36 = .ok (.iinc 3 1, 3) := by decide +kernel
theorem d_jdk_33_13_39 : decode jdk_33_method_13_code 39 = .ok (.goto (-23), 3) := by decide +kernel
theorem d_jdk_33_13_42 : decode jdk_33_method_13_code 42 = .ok (.bipush 10, 2) := by decide +kernel
theorem d_jdk_33_13_44 : decode jdk_33_method_13_code 44 = .ok (.iload_n 1, 1) := by decide +kernel
theorem d_jdk_33_13_45 : decode jdk_33_method_13_code 45 = .ok (.iadd, 1) := by decide +kernel
theorem d_jdk_33_13_46 : decode jdk_33_method_13_code 46 = .ok (.ireturn, 1) := by decide +kernel
set_option maxRecDepth 65536 in
set_option maxHeartbeats 40000000 in
theorem rm_strSize (l : Launch) {Z : State} {a0 : Array Value} (hD : Wd Z a0) (x : Int32) (A sg : Nat) {h0 : Heap} (O0 : Ext Z.heap h0) (hS : (sg = 0 ∧ ¬ x < 0 ∧ A = x.toInt.toNat) ∨ (sg = 1 ∧ x < 0 ∧ A = (-x.toInt).toNat)) (hAb : A ≤ 2147483648) :
    Con l Z (⟨"java/lang/Integer", "stringSize", "(I)I"⟩ : MethodName) jdk_33_method_13_code 4 (some .int) [] ({ frames := 0, cells := 0, slots := 0, locals := 0 } : Room) #[(.int x)] h0 (Q_strSize Z x A sg h0) := by
  refine Con.walk (plainFor_of_name pn_6) ?_
  intro p e s m below meth c T0 X0 hx hZ hby hml hown hnm hret hlk e0
  obtain ⟨hw, ⟨cz, S_CS, hcz⟩, ⟨sf, S_SF, hsf⟩, ⟨d1, d2, kd1, kd2, S_D1, S_D2, V_D1, V_D2⟩⟩ := id hD
  have N0 := Fr.nil Z.heap.size
  refine OEnds.cast (ef_strSize m x) ?_
  obtain ⟨_, ⟨i0, T1, lc1, fj1, X1, e1, N1, rfl⟩, st1⟩ : OJ p e below (fun S' => ∃ (i0 : Int32) (T' : State) (lc : List Loc), (i0.toInt = -(A : Int)) ∧ Stand p l e ({ frames := 0, cells := 0, slots := 0, locals := 0 } : Room) s m #[(.int x)] below meth c T' lc 0 0 ∧ T'.heap = h0 ∧ Fr Z.heap.size lc ∧ S' = T'.setTop (mkF m 11 #[vi i0, vi (Int32.ofNat sg), .unset, .unset] [])) (T0.setTop (mkF m 0 #[vi x, .unset, .unset, .unset] [])) := by
    rcases hS with ⟨rfl, q, hA⟩ | ⟨rfl, q, hA⟩
    · refine OJ.st (S' := T0.setTop (mkF m 11 #[vi (-x), vi 0, .unset, .unset] [])) (fun _ k => ?_) ?_
      · refine XS.iconst X0.here hx rfl (hb hby d_jdk_33_13_0) ?_
        refine XS.istoreN X0.here hx rfl (hb hby d_jdk_33_13_1) rfl (l' := #[vi x, vi 1, .unset, .unset]) rfl ?_
        refine XS.iloadN X0.here hx rfl (hb hby d_jdk_33_13_2) rfl ?_
        refine XS.ifNo X0.here hx rfl (hb hby d_jdk_33_13_3) rfl ((if0 _ _).trans (flt q).1) ?_
        show Steps p.tables e below (T0.setTop (mkF m 6 #[vi x, vi 1, .unset, .unset] [])) _
        refine XS.iconst X0.here hx rfl (hb hby d_jdk_33_13_6) ?_
        refine XS.istoreN X0.here hx rfl (hb hby d_jdk_33_13_7) rfl (l' := #[vi x, vi 0, .unset, .unset]) rfl ?_
        refine XS.iloadN X0.here hx rfl (hb hby d_jdk_33_13_8) rfl ?_
        refine XS.ineg X0.here hx rfl (hb hby d_jdk_33_13_9) rfl ?_
        show Steps p.tables e below (T0.setTop (mkF m 10 #[vi x, vi 0, .unset, .unset] [(.int (-x))])) _
        refine XS.istoreN X0.here hx rfl (hb hby d_jdk_33_13_10) rfl (l' := #[vi (-x), vi 0, .unset, .unset]) rfl ?_
        exact k
      exact OJ.here ⟨(-x), T0, _, hA ▸ (pos_lem q).1, X0, e0, N0, rfl⟩
    · refine OJ.st (S' := T0.setTop (mkF m 11 #[vi x, vi 1, .unset, .unset] [])) (fun _ k => ?_) ?_
      · refine XS.iconst X0.here hx rfl (hb hby d_jdk_33_13_0) ?_
        refine XS.istoreN X0.here hx rfl (hb hby d_jdk_33_13_1) rfl (l' := #[vi x, vi 1, .unset, .unset]) rfl ?_
        refine XS.iloadN X0.here hx rfl (hb hby d_jdk_33_13_2) rfl ?_
        refine XS.ifYes X0.here hx rfl (pc0 := 3) (pc' := 11) rfl (hb hby d_jdk_33_13_3) rfl ((if0 _ _).trans (tlt q).1) (by decide) (by decide) ?_
        exact k
      exact OJ.here ⟨x, T0, _, hA ▸ (ngt_lem q).1, X0, e0, N0, rfl⟩
  refine OEnds.st st1 ?_
  have hi := fj1
  refine OEnds.st (S' := T1.setTop (mkF m 16 #[vi i0, vi (Int32.ofNat sg), vi (-10), vi 1] [])) (fun _ k => ?_) ?_
  · refine XS.bipush X1.here hx rfl (hb hby d_jdk_33_13_11) ?_
    refine XS.istoreN X1.here hx rfl (hb hby d_jdk_33_13_13) rfl (l' := #[vi i0, vi (Int32.ofNat sg), vi (-10), .unset]) rfl ?_
    refine XS.iconst X1.here hx rfl (hb hby d_jdk_33_13_14) ?_
    refine XS.istoreN X1.here hx rfl (hb hby d_jdk_33_13_15) rfl (l' := #[vi i0, vi (Int32.ofNat sg), vi (-10), vi 1]) rfl ?_
    exact k
  refine OEnds.st (S' := T1.setTop (mkF m 24 #[vi i0, vi (Int32.ofNat sg), vi (-10), vi 1] [(.int (-10)), (.int i0)])) (fun _ k => ?_) ?_
  · refine XS.iloadN X1.here hx rfl (hb hby d_jdk_33_13_16) rfl ?_
    refine XS.bipush X1.here hx rfl (hb hby d_jdk_33_13_17) ?_
    refine XS.icmpNo X1.here hx rfl (hb hby d_jdk_33_13_19) rfl (tlt (by decide)).2.1 ?_
    refine XS.iloadN X1.here hx rfl (hb hby d_jdk_33_13_22) rfl ?_
    show Steps p.tables e below (T1.setTop (mkF m 23 #[vi i0, vi (Int32.ofNat sg), vi (-10), vi 1] [(.int i0)])) _
    refine XS.iloadN X1.here hx rfl (hb hby d_jdk_33_13_23) rfl ?_
    exact k
  rcases Classical.em ((-10 : Int32) < i0) with g1 | g1
  · have k1 : A < 10 := (cmp_lem hi rfl).mp g1
    refine OEnds.st (S' := T1.setTop (mkF m 30 #[vi i0, vi (Int32.ofNat sg), vi (-10), vi 1] [(.int ((1 : Int32) + (Int32.ofNat sg)))])) (fun _ k => ?_) ?_
    · refine XS.icmpNo X1.here hx rfl (hb hby d_jdk_33_13_24) rfl (tlt g1).2.2.2 ?_
      refine XS.iloadN X1.here hx rfl (hb hby d_jdk_33_13_27) rfl ?_
      refine XS.iloadN X1.here hx rfl (hb hby d_jdk_33_13_28) rfl ?_
      refine XS.iadd X1.here hx rfl (hb hby d_jdk_33_13_29) rfl ?_
      exact k
    rw [show (1 : Int32) + (Int32.ofNat sg) = Int32.ofNat (1 + sg) from ofn_add 1 sg]
    exact OEnds.ret X1 hx hret hlk rfl (Or.inl ⟨rfl, by simp, _, rfl⟩) (hb hby d_jdk_33_13_30) (by decide) (by decide) (by rw [e1]; exact ⟨1, ⟨by decide, by decide, by omega, Or.inl rfl⟩, rfl, N1, rfl⟩)
  · have k1 : ¬ A < 10 := fun q => g1 ((cmp_lem hi (P := 10) rfl).mpr q)
    refine OEnds.st (S' := T1.setTop (mkF m 16 #[vi i0, vi (Int32.ofNat sg), vi (-100), vi 2] [])) (fun _ k => ?_) ?_
    · refine XS.icmpYes X1.here hx rfl (pc0 := 24) (pc' := 31) rfl (hb hby d_jdk_33_13_24) rfl (flt g1).2.2.2 (by decide) (by decide) ?_
      refine XS.bipush X1.here hx rfl (hb hby d_jdk_33_13_31) ?_
      refine XS.iloadN X1.here hx rfl (hb hby d_jdk_33_13_33) rfl ?_
      refine XS.imul X1.here hx rfl (hb hby d_jdk_33_13_34) rfl ?_
      show Steps p.tables e below (T1.setTop (mkF m 35 #[vi i0, vi (Int32.ofNat sg), vi (-10), vi 1] [(.int (-100))])) _
      refine XS.istoreN X1.here hx rfl (hb hby d_jdk_33_13_35) rfl (l' := #[vi i0, vi (Int32.ofNat sg), vi (-100), vi 1]) rfl ?_
      refine XS.iinc X1.here hx rfl (hb hby d_jdk_33_13_36) rfl (l' := #[vi i0, vi (Int32.ofNat sg), vi (-100), vi 2]) rfl ?_
      refine XS.goto X1.here hx rfl (pc0 := 39) (pc' := 16) rfl (hb hby d_jdk_33_13_39) (by decide) (by decide) ?_
      exact k
    refine OEnds.st (S' := T1.setTop (mkF m 24 #[vi i0, vi (Int32.ofNat sg), vi (-100), vi 2] [(.int (-100)), (.int i0)])) (fun _ k => ?_) ?_
    · refine XS.iloadN X1.here hx rfl (hb hby d_jdk_33_13_16) rfl ?_
      refine XS.bipush X1.here hx rfl (hb hby d_jdk_33_13_17) ?_
      refine XS.icmpNo X1.here hx rfl (hb hby d_jdk_33_13_19) rfl (tlt (by decide)).2.1 ?_
      refine XS.iloadN X1.here hx rfl (hb hby d_jdk_33_13_22) rfl ?_
      show Steps p.tables e below (T1.setTop (mkF m 23 #[vi i0, vi (Int32.ofNat sg), vi (-100), vi 2] [(.int i0)])) _
      refine XS.iloadN X1.here hx rfl (hb hby d_jdk_33_13_23) rfl ?_
      exact k
    rcases Classical.em ((-100 : Int32) < i0) with g2 | g2
    · have k2 : A < 100 := (cmp_lem hi rfl).mp g2
      refine OEnds.st (S' := T1.setTop (mkF m 30 #[vi i0, vi (Int32.ofNat sg), vi (-100), vi 2] [(.int ((2 : Int32) + (Int32.ofNat sg)))])) (fun _ k => ?_) ?_
      · refine XS.icmpNo X1.here hx rfl (hb hby d_jdk_33_13_24) rfl (tlt g2).2.2.2 ?_
        refine XS.iloadN X1.here hx rfl (hb hby d_jdk_33_13_27) rfl ?_
        refine XS.iloadN X1.here hx rfl (hb hby d_jdk_33_13_28) rfl ?_
        refine XS.iadd X1.here hx rfl (hb hby d_jdk_33_13_29) rfl ?_
        exact k
      rw [show (2 : Int32) + (Int32.ofNat sg) = Int32.ofNat (2 + sg) from ofn_add 2 sg]
      exact OEnds.ret X1 hx hret hlk rfl (Or.inl ⟨rfl, by simp, _, rfl⟩) (hb hby d_jdk_33_13_30) (by decide) (by decide) (by rw [e1]; exact ⟨2, ⟨by decide, by decide, by omega, Or.inr (by omega)⟩, rfl, N1, rfl⟩)
    · have k2 : ¬ A < 100 := fun q => g2 ((cmp_lem hi (P := 100) rfl).mpr q)
      refine OEnds.st (S' := T1.setTop (mkF m 16 #[vi i0, vi (Int32.ofNat sg), vi (-1000), vi 3] [])) (fun _ k => ?_) ?_
      · refine XS.icmpYes X1.here hx rfl (pc0 := 24) (pc' := 31) rfl (hb hby d_jdk_33_13_24) rfl (flt g2).2.2.2 (by decide) (by decide) ?_
        refine XS.bipush X1.here hx rfl (hb hby d_jdk_33_13_31) ?_
        refine XS.iloadN X1.here hx rfl (hb hby d_jdk_33_13_33) rfl ?_
        refine XS.imul X1.here hx rfl (hb hby d_jdk_33_13_34) rfl ?_
        show Steps p.tables e below (T1.setTop (mkF m 35 #[vi i0, vi (Int32.ofNat sg), vi (-100), vi 2] [(.int (-1000))])) _
        refine XS.istoreN X1.here hx rfl (hb hby d_jdk_33_13_35) rfl (l' := #[vi i0, vi (Int32.ofNat sg), vi (-1000), vi 2]) rfl ?_
        refine XS.iinc X1.here hx rfl (hb hby d_jdk_33_13_36) rfl (l' := #[vi i0, vi (Int32.ofNat sg), vi (-1000), vi 3]) rfl ?_
        refine XS.goto X1.here hx rfl (pc0 := 39) (pc' := 16) rfl (hb hby d_jdk_33_13_39) (by decide) (by decide) ?_
        exact k
      refine OEnds.st (S' := T1.setTop (mkF m 24 #[vi i0, vi (Int32.ofNat sg), vi (-1000), vi 3] [(.int (-1000)), (.int i0)])) (fun _ k => ?_) ?_
      · refine XS.iloadN X1.here hx rfl (hb hby d_jdk_33_13_16) rfl ?_
        refine XS.bipush X1.here hx rfl (hb hby d_jdk_33_13_17) ?_
        refine XS.icmpNo X1.here hx rfl (hb hby d_jdk_33_13_19) rfl (tlt (by decide)).2.1 ?_
        refine XS.iloadN X1.here hx rfl (hb hby d_jdk_33_13_22) rfl ?_
        show Steps p.tables e below (T1.setTop (mkF m 23 #[vi i0, vi (Int32.ofNat sg), vi (-1000), vi 3] [(.int i0)])) _
        refine XS.iloadN X1.here hx rfl (hb hby d_jdk_33_13_23) rfl ?_
        exact k
      rcases Classical.em ((-1000 : Int32) < i0) with g3 | g3
      · have k3 : A < 1000 := (cmp_lem hi rfl).mp g3
        refine OEnds.st (S' := T1.setTop (mkF m 30 #[vi i0, vi (Int32.ofNat sg), vi (-1000), vi 3] [(.int ((3 : Int32) + (Int32.ofNat sg)))])) (fun _ k => ?_) ?_
        · refine XS.icmpNo X1.here hx rfl (hb hby d_jdk_33_13_24) rfl (tlt g3).2.2.2 ?_
          refine XS.iloadN X1.here hx rfl (hb hby d_jdk_33_13_27) rfl ?_
          refine XS.iloadN X1.here hx rfl (hb hby d_jdk_33_13_28) rfl ?_
          refine XS.iadd X1.here hx rfl (hb hby d_jdk_33_13_29) rfl ?_
          exact k
        rw [show (3 : Int32) + (Int32.ofNat sg) = Int32.ofNat (3 + sg) from ofn_add 3 sg]
        exact OEnds.ret X1 hx hret hlk rfl (Or.inl ⟨rfl, by simp, _, rfl⟩) (hb hby d_jdk_33_13_30) (by decide) (by decide) (by rw [e1]; exact ⟨3, ⟨by decide, by decide, by omega, Or.inr (by omega)⟩, rfl, N1, rfl⟩)
      · have k3 : ¬ A < 1000 := fun q => g3 ((cmp_lem hi (P := 1000) rfl).mpr q)
        refine OEnds.st (S' := T1.setTop (mkF m 16 #[vi i0, vi (Int32.ofNat sg), vi (-10000), vi 4] [])) (fun _ k => ?_) ?_
        · refine XS.icmpYes X1.here hx rfl (pc0 := 24) (pc' := 31) rfl (hb hby d_jdk_33_13_24) rfl (flt g3).2.2.2 (by decide) (by decide) ?_
          refine XS.bipush X1.here hx rfl (hb hby d_jdk_33_13_31) ?_
          refine XS.iloadN X1.here hx rfl (hb hby d_jdk_33_13_33) rfl ?_
          refine XS.imul X1.here hx rfl (hb hby d_jdk_33_13_34) rfl ?_
          show Steps p.tables e below (T1.setTop (mkF m 35 #[vi i0, vi (Int32.ofNat sg), vi (-1000), vi 3] [(.int (-10000))])) _
          refine XS.istoreN X1.here hx rfl (hb hby d_jdk_33_13_35) rfl (l' := #[vi i0, vi (Int32.ofNat sg), vi (-10000), vi 3]) rfl ?_
          refine XS.iinc X1.here hx rfl (hb hby d_jdk_33_13_36) rfl (l' := #[vi i0, vi (Int32.ofNat sg), vi (-10000), vi 4]) rfl ?_
          refine XS.goto X1.here hx rfl (pc0 := 39) (pc' := 16) rfl (hb hby d_jdk_33_13_39) (by decide) (by decide) ?_
          exact k
        refine OEnds.st (S' := T1.setTop (mkF m 24 #[vi i0, vi (Int32.ofNat sg), vi (-10000), vi 4] [(.int (-10000)), (.int i0)])) (fun _ k => ?_) ?_
        · refine XS.iloadN X1.here hx rfl (hb hby d_jdk_33_13_16) rfl ?_
          refine XS.bipush X1.here hx rfl (hb hby d_jdk_33_13_17) ?_
          refine XS.icmpNo X1.here hx rfl (hb hby d_jdk_33_13_19) rfl (tlt (by decide)).2.1 ?_
          refine XS.iloadN X1.here hx rfl (hb hby d_jdk_33_13_22) rfl ?_
          show Steps p.tables e below (T1.setTop (mkF m 23 #[vi i0, vi (Int32.ofNat sg), vi (-10000), vi 4] [(.int i0)])) _
          refine XS.iloadN X1.here hx rfl (hb hby d_jdk_33_13_23) rfl ?_
          exact k
        rcases Classical.em ((-10000 : Int32) < i0) with g4 | g4
        · have k4 : A < 10000 := (cmp_lem hi rfl).mp g4
          refine OEnds.st (S' := T1.setTop (mkF m 30 #[vi i0, vi (Int32.ofNat sg), vi (-10000), vi 4] [(.int ((4 : Int32) + (Int32.ofNat sg)))])) (fun _ k => ?_) ?_
          · refine XS.icmpNo X1.here hx rfl (hb hby d_jdk_33_13_24) rfl (tlt g4).2.2.2 ?_
            refine XS.iloadN X1.here hx rfl (hb hby d_jdk_33_13_27) rfl ?_
            refine XS.iloadN X1.here hx rfl (hb hby d_jdk_33_13_28) rfl ?_
            refine XS.iadd X1.here hx rfl (hb hby d_jdk_33_13_29) rfl ?_
            exact k
          rw [show (4 : Int32) + (Int32.ofNat sg) = Int32.ofNat (4 + sg) from ofn_add 4 sg]
          exact OEnds.ret X1 hx hret hlk rfl (Or.inl ⟨rfl, by simp, _, rfl⟩) (hb hby d_jdk_33_13_30) (by decide) (by decide) (by rw [e1]; exact ⟨4, ⟨by decide, by decide, by omega, Or.inr (by omega)⟩, rfl, N1, rfl⟩)
        · have k4 : ¬ A < 10000 := fun q => g4 ((cmp_lem hi (P := 10000) rfl).mpr q)
          refine OEnds.st (S' := T1.setTop (mkF m 16 #[vi i0, vi (Int32.ofNat sg), vi (-100000), vi 5] [])) (fun _ k => ?_) ?_
          · refine XS.icmpYes X1.here hx rfl (pc0 := 24) (pc' := 31) rfl (hb hby d_jdk_33_13_24) rfl (flt g4).2.2.2 (by decide) (by decide) ?_
            refine XS.bipush X1.here hx rfl (hb hby d_jdk_33_13_31) ?_
            refine XS.iloadN X1.here hx rfl (hb hby d_jdk_33_13_33) rfl ?_
            refine XS.imul X1.here hx rfl (hb hby d_jdk_33_13_34) rfl ?_
            show Steps p.tables e below (T1.setTop (mkF m 35 #[vi i0, vi (Int32.ofNat sg), vi (-10000), vi 4] [(.int (-100000))])) _
            refine XS.istoreN X1.here hx rfl (hb hby d_jdk_33_13_35) rfl (l' := #[vi i0, vi (Int32.ofNat sg), vi (-100000), vi 4]) rfl ?_
            refine XS.iinc X1.here hx rfl (hb hby d_jdk_33_13_36) rfl (l' := #[vi i0, vi (Int32.ofNat sg), vi (-100000), vi 5]) rfl ?_
            refine XS.goto X1.here hx rfl (pc0 := 39) (pc' := 16) rfl (hb hby d_jdk_33_13_39) (by decide) (by decide) ?_
            exact k
          refine OEnds.st (S' := T1.setTop (mkF m 24 #[vi i0, vi (Int32.ofNat sg), vi (-100000), vi 5] [(.int (-100000)), (.int i0)])) (fun _ k => ?_) ?_
          · refine XS.iloadN X1.here hx rfl (hb hby d_jdk_33_13_16) rfl ?_
            refine XS.bipush X1.here hx rfl (hb hby d_jdk_33_13_17) ?_
            refine XS.icmpNo X1.here hx rfl (hb hby d_jdk_33_13_19) rfl (tlt (by decide)).2.1 ?_
            refine XS.iloadN X1.here hx rfl (hb hby d_jdk_33_13_22) rfl ?_
            show Steps p.tables e below (T1.setTop (mkF m 23 #[vi i0, vi (Int32.ofNat sg), vi (-100000), vi 5] [(.int i0)])) _
            refine XS.iloadN X1.here hx rfl (hb hby d_jdk_33_13_23) rfl ?_
            exact k
          rcases Classical.em ((-100000 : Int32) < i0) with g5 | g5
          · have k5 : A < 100000 := (cmp_lem hi rfl).mp g5
            refine OEnds.st (S' := T1.setTop (mkF m 30 #[vi i0, vi (Int32.ofNat sg), vi (-100000), vi 5] [(.int ((5 : Int32) + (Int32.ofNat sg)))])) (fun _ k => ?_) ?_
            · refine XS.icmpNo X1.here hx rfl (hb hby d_jdk_33_13_24) rfl (tlt g5).2.2.2 ?_
              refine XS.iloadN X1.here hx rfl (hb hby d_jdk_33_13_27) rfl ?_
              refine XS.iloadN X1.here hx rfl (hb hby d_jdk_33_13_28) rfl ?_
              refine XS.iadd X1.here hx rfl (hb hby d_jdk_33_13_29) rfl ?_
              exact k
            rw [show (5 : Int32) + (Int32.ofNat sg) = Int32.ofNat (5 + sg) from ofn_add 5 sg]
            exact OEnds.ret X1 hx hret hlk rfl (Or.inl ⟨rfl, by simp, _, rfl⟩) (hb hby d_jdk_33_13_30) (by decide) (by decide) (by rw [e1]; exact ⟨5, ⟨by decide, by decide, by omega, Or.inr (by omega)⟩, rfl, N1, rfl⟩)
          · have k5 : ¬ A < 100000 := fun q => g5 ((cmp_lem hi (P := 100000) rfl).mpr q)
            refine OEnds.st (S' := T1.setTop (mkF m 16 #[vi i0, vi (Int32.ofNat sg), vi (-1000000), vi 6] [])) (fun _ k => ?_) ?_
            · refine XS.icmpYes X1.here hx rfl (pc0 := 24) (pc' := 31) rfl (hb hby d_jdk_33_13_24) rfl (flt g5).2.2.2 (by decide) (by decide) ?_
              refine XS.bipush X1.here hx rfl (hb hby d_jdk_33_13_31) ?_
              refine XS.iloadN X1.here hx rfl (hb hby d_jdk_33_13_33) rfl ?_
              refine XS.imul X1.here hx rfl (hb hby d_jdk_33_13_34) rfl ?_
              show Steps p.tables e below (T1.setTop (mkF m 35 #[vi i0, vi (Int32.ofNat sg), vi (-100000), vi 5] [(.int (-1000000))])) _
              refine XS.istoreN X1.here hx rfl (hb hby d_jdk_33_13_35) rfl (l' := #[vi i0, vi (Int32.ofNat sg), vi (-1000000), vi 5]) rfl ?_
              refine XS.iinc X1.here hx rfl (hb hby d_jdk_33_13_36) rfl (l' := #[vi i0, vi (Int32.ofNat sg), vi (-1000000), vi 6]) rfl ?_
              refine XS.goto X1.here hx rfl (pc0 := 39) (pc' := 16) rfl (hb hby d_jdk_33_13_39) (by decide) (by decide) ?_
              exact k
            refine OEnds.st (S' := T1.setTop (mkF m 24 #[vi i0, vi (Int32.ofNat sg), vi (-1000000), vi 6] [(.int (-1000000)), (.int i0)])) (fun _ k => ?_) ?_
            · refine XS.iloadN X1.here hx rfl (hb hby d_jdk_33_13_16) rfl ?_
              refine XS.bipush X1.here hx rfl (hb hby d_jdk_33_13_17) ?_
              refine XS.icmpNo X1.here hx rfl (hb hby d_jdk_33_13_19) rfl (tlt (by decide)).2.1 ?_
              refine XS.iloadN X1.here hx rfl (hb hby d_jdk_33_13_22) rfl ?_
              show Steps p.tables e below (T1.setTop (mkF m 23 #[vi i0, vi (Int32.ofNat sg), vi (-1000000), vi 6] [(.int i0)])) _
              refine XS.iloadN X1.here hx rfl (hb hby d_jdk_33_13_23) rfl ?_
              exact k
            rcases Classical.em ((-1000000 : Int32) < i0) with g6 | g6
            · have k6 : A < 1000000 := (cmp_lem hi rfl).mp g6
              refine OEnds.st (S' := T1.setTop (mkF m 30 #[vi i0, vi (Int32.ofNat sg), vi (-1000000), vi 6] [(.int ((6 : Int32) + (Int32.ofNat sg)))])) (fun _ k => ?_) ?_
              · refine XS.icmpNo X1.here hx rfl (hb hby d_jdk_33_13_24) rfl (tlt g6).2.2.2 ?_
                refine XS.iloadN X1.here hx rfl (hb hby d_jdk_33_13_27) rfl ?_
                refine XS.iloadN X1.here hx rfl (hb hby d_jdk_33_13_28) rfl ?_
                refine XS.iadd X1.here hx rfl (hb hby d_jdk_33_13_29) rfl ?_
                exact k
              rw [show (6 : Int32) + (Int32.ofNat sg) = Int32.ofNat (6 + sg) from ofn_add 6 sg]
              exact OEnds.ret X1 hx hret hlk rfl (Or.inl ⟨rfl, by simp, _, rfl⟩) (hb hby d_jdk_33_13_30) (by decide) (by decide) (by rw [e1]; exact ⟨6, ⟨by decide, by decide, by omega, Or.inr (by omega)⟩, rfl, N1, rfl⟩)
            · have k6 : ¬ A < 1000000 := fun q => g6 ((cmp_lem hi (P := 1000000) rfl).mpr q)
              refine OEnds.st (S' := T1.setTop (mkF m 16 #[vi i0, vi (Int32.ofNat sg), vi (-10000000), vi 7] [])) (fun _ k => ?_) ?_
              · refine XS.icmpYes X1.here hx rfl (pc0 := 24) (pc' := 31) rfl (hb hby d_jdk_33_13_24) rfl (flt g6).2.2.2 (by decide) (by decide) ?_
                refine XS.bipush X1.here hx rfl (hb hby d_jdk_33_13_31) ?_
                refine XS.iloadN X1.here hx rfl (hb hby d_jdk_33_13_33) rfl ?_
                refine XS.imul X1.here hx rfl (hb hby d_jdk_33_13_34) rfl ?_
                show Steps p.tables e below (T1.setTop (mkF m 35 #[vi i0, vi (Int32.ofNat sg), vi (-1000000), vi 6] [(.int (-10000000))])) _
                refine XS.istoreN X1.here hx rfl (hb hby d_jdk_33_13_35) rfl (l' := #[vi i0, vi (Int32.ofNat sg), vi (-10000000), vi 6]) rfl ?_
                refine XS.iinc X1.here hx rfl (hb hby d_jdk_33_13_36) rfl (l' := #[vi i0, vi (Int32.ofNat sg), vi (-10000000), vi 7]) rfl ?_
                refine XS.goto X1.here hx rfl (pc0 := 39) (pc' := 16) rfl (hb hby d_jdk_33_13_39) (by decide) (by decide) ?_
                exact k
              refine OEnds.st (S' := T1.setTop (mkF m 24 #[vi i0, vi (Int32.ofNat sg), vi (-10000000), vi 7] [(.int (-10000000)), (.int i0)])) (fun _ k => ?_) ?_
              · refine XS.iloadN X1.here hx rfl (hb hby d_jdk_33_13_16) rfl ?_
                refine XS.bipush X1.here hx rfl (hb hby d_jdk_33_13_17) ?_
                refine XS.icmpNo X1.here hx rfl (hb hby d_jdk_33_13_19) rfl (tlt (by decide)).2.1 ?_
                refine XS.iloadN X1.here hx rfl (hb hby d_jdk_33_13_22) rfl ?_
                show Steps p.tables e below (T1.setTop (mkF m 23 #[vi i0, vi (Int32.ofNat sg), vi (-10000000), vi 7] [(.int i0)])) _
                refine XS.iloadN X1.here hx rfl (hb hby d_jdk_33_13_23) rfl ?_
                exact k
              rcases Classical.em ((-10000000 : Int32) < i0) with g7 | g7
              · have k7 : A < 10000000 := (cmp_lem hi rfl).mp g7
                refine OEnds.st (S' := T1.setTop (mkF m 30 #[vi i0, vi (Int32.ofNat sg), vi (-10000000), vi 7] [(.int ((7 : Int32) + (Int32.ofNat sg)))])) (fun _ k => ?_) ?_
                · refine XS.icmpNo X1.here hx rfl (hb hby d_jdk_33_13_24) rfl (tlt g7).2.2.2 ?_
                  refine XS.iloadN X1.here hx rfl (hb hby d_jdk_33_13_27) rfl ?_
                  refine XS.iloadN X1.here hx rfl (hb hby d_jdk_33_13_28) rfl ?_
                  refine XS.iadd X1.here hx rfl (hb hby d_jdk_33_13_29) rfl ?_
                  exact k
                rw [show (7 : Int32) + (Int32.ofNat sg) = Int32.ofNat (7 + sg) from ofn_add 7 sg]
                exact OEnds.ret X1 hx hret hlk rfl (Or.inl ⟨rfl, by simp, _, rfl⟩) (hb hby d_jdk_33_13_30) (by decide) (by decide) (by rw [e1]; exact ⟨7, ⟨by decide, by decide, by omega, Or.inr (by omega)⟩, rfl, N1, rfl⟩)
              · have k7 : ¬ A < 10000000 := fun q => g7 ((cmp_lem hi (P := 10000000) rfl).mpr q)
                refine OEnds.st (S' := T1.setTop (mkF m 16 #[vi i0, vi (Int32.ofNat sg), vi (-100000000), vi 8] [])) (fun _ k => ?_) ?_
                · refine XS.icmpYes X1.here hx rfl (pc0 := 24) (pc' := 31) rfl (hb hby d_jdk_33_13_24) rfl (flt g7).2.2.2 (by decide) (by decide) ?_
                  refine XS.bipush X1.here hx rfl (hb hby d_jdk_33_13_31) ?_
                  refine XS.iloadN X1.here hx rfl (hb hby d_jdk_33_13_33) rfl ?_
                  refine XS.imul X1.here hx rfl (hb hby d_jdk_33_13_34) rfl ?_
                  show Steps p.tables e below (T1.setTop (mkF m 35 #[vi i0, vi (Int32.ofNat sg), vi (-10000000), vi 7] [(.int (-100000000))])) _
                  refine XS.istoreN X1.here hx rfl (hb hby d_jdk_33_13_35) rfl (l' := #[vi i0, vi (Int32.ofNat sg), vi (-100000000), vi 7]) rfl ?_
                  refine XS.iinc X1.here hx rfl (hb hby d_jdk_33_13_36) rfl (l' := #[vi i0, vi (Int32.ofNat sg), vi (-100000000), vi 8]) rfl ?_
                  refine XS.goto X1.here hx rfl (pc0 := 39) (pc' := 16) rfl (hb hby d_jdk_33_13_39) (by decide) (by decide) ?_
                  exact k
                refine OEnds.st (S' := T1.setTop (mkF m 24 #[vi i0, vi (Int32.ofNat sg), vi (-100000000), vi 8] [(.int (-100000000)), (.int i0)])) (fun _ k => ?_) ?_
                · refine XS.iloadN X1.here hx rfl (hb hby d_jdk_33_13_16) rfl ?_
                  refine XS.bipush X1.here hx rfl (hb hby d_jdk_33_13_17) ?_
                  refine XS.icmpNo X1.here hx rfl (hb hby d_jdk_33_13_19) rfl (tlt (by decide)).2.1 ?_
                  refine XS.iloadN X1.here hx rfl (hb hby d_jdk_33_13_22) rfl ?_
                  show Steps p.tables e below (T1.setTop (mkF m 23 #[vi i0, vi (Int32.ofNat sg), vi (-100000000), vi 8] [(.int i0)])) _
                  refine XS.iloadN X1.here hx rfl (hb hby d_jdk_33_13_23) rfl ?_
                  exact k
                rcases Classical.em ((-100000000 : Int32) < i0) with g8 | g8
                · have k8 : A < 100000000 := (cmp_lem hi rfl).mp g8
                  refine OEnds.st (S' := T1.setTop (mkF m 30 #[vi i0, vi (Int32.ofNat sg), vi (-100000000), vi 8] [(.int ((8 : Int32) + (Int32.ofNat sg)))])) (fun _ k => ?_) ?_
                  · refine XS.icmpNo X1.here hx rfl (hb hby d_jdk_33_13_24) rfl (tlt g8).2.2.2 ?_
                    refine XS.iloadN X1.here hx rfl (hb hby d_jdk_33_13_27) rfl ?_
                    refine XS.iloadN X1.here hx rfl (hb hby d_jdk_33_13_28) rfl ?_
                    refine XS.iadd X1.here hx rfl (hb hby d_jdk_33_13_29) rfl ?_
                    exact k
                  rw [show (8 : Int32) + (Int32.ofNat sg) = Int32.ofNat (8 + sg) from ofn_add 8 sg]
                  exact OEnds.ret X1 hx hret hlk rfl (Or.inl ⟨rfl, by simp, _, rfl⟩) (hb hby d_jdk_33_13_30) (by decide) (by decide) (by rw [e1]; exact ⟨8, ⟨by decide, by decide, by omega, Or.inr (by omega)⟩, rfl, N1, rfl⟩)
                · have k8 : ¬ A < 100000000 := fun q => g8 ((cmp_lem hi (P := 100000000) rfl).mpr q)
                  refine OEnds.st (S' := T1.setTop (mkF m 16 #[vi i0, vi (Int32.ofNat sg), vi (-1000000000), vi 9] [])) (fun _ k => ?_) ?_
                  · refine XS.icmpYes X1.here hx rfl (pc0 := 24) (pc' := 31) rfl (hb hby d_jdk_33_13_24) rfl (flt g8).2.2.2 (by decide) (by decide) ?_
                    refine XS.bipush X1.here hx rfl (hb hby d_jdk_33_13_31) ?_
                    refine XS.iloadN X1.here hx rfl (hb hby d_jdk_33_13_33) rfl ?_
                    refine XS.imul X1.here hx rfl (hb hby d_jdk_33_13_34) rfl ?_
                    show Steps p.tables e below (T1.setTop (mkF m 35 #[vi i0, vi (Int32.ofNat sg), vi (-100000000), vi 8] [(.int (-1000000000))])) _
                    refine XS.istoreN X1.here hx rfl (hb hby d_jdk_33_13_35) rfl (l' := #[vi i0, vi (Int32.ofNat sg), vi (-1000000000), vi 8]) rfl ?_
                    refine XS.iinc X1.here hx rfl (hb hby d_jdk_33_13_36) rfl (l' := #[vi i0, vi (Int32.ofNat sg), vi (-1000000000), vi 9]) rfl ?_
                    refine XS.goto X1.here hx rfl (pc0 := 39) (pc' := 16) rfl (hb hby d_jdk_33_13_39) (by decide) (by decide) ?_
                    exact k
                  refine OEnds.st (S' := T1.setTop (mkF m 24 #[vi i0, vi (Int32.ofNat sg), vi (-1000000000), vi 9] [(.int (-1000000000)), (.int i0)])) (fun _ k => ?_) ?_
                  · refine XS.iloadN X1.here hx rfl (hb hby d_jdk_33_13_16) rfl ?_
                    refine XS.bipush X1.here hx rfl (hb hby d_jdk_33_13_17) ?_
                    refine XS.icmpNo X1.here hx rfl (hb hby d_jdk_33_13_19) rfl (tlt (by decide)).2.1 ?_
                    refine XS.iloadN X1.here hx rfl (hb hby d_jdk_33_13_22) rfl ?_
                    show Steps p.tables e below (T1.setTop (mkF m 23 #[vi i0, vi (Int32.ofNat sg), vi (-1000000000), vi 9] [(.int i0)])) _
                    refine XS.iloadN X1.here hx rfl (hb hby d_jdk_33_13_23) rfl ?_
                    exact k
                  rcases Classical.em ((-1000000000 : Int32) < i0) with g9 | g9
                  · have k9 : A < 1000000000 := (cmp_lem hi rfl).mp g9
                    refine OEnds.st (S' := T1.setTop (mkF m 30 #[vi i0, vi (Int32.ofNat sg), vi (-1000000000), vi 9] [(.int ((9 : Int32) + (Int32.ofNat sg)))])) (fun _ k => ?_) ?_
                    · refine XS.icmpNo X1.here hx rfl (hb hby d_jdk_33_13_24) rfl (tlt g9).2.2.2 ?_
                      refine XS.iloadN X1.here hx rfl (hb hby d_jdk_33_13_27) rfl ?_
                      refine XS.iloadN X1.here hx rfl (hb hby d_jdk_33_13_28) rfl ?_
                      refine XS.iadd X1.here hx rfl (hb hby d_jdk_33_13_29) rfl ?_
                      exact k
                    rw [show (9 : Int32) + (Int32.ofNat sg) = Int32.ofNat (9 + sg) from ofn_add 9 sg]
                    exact OEnds.ret X1 hx hret hlk rfl (Or.inl ⟨rfl, by simp, _, rfl⟩) (hb hby d_jdk_33_13_30) (by decide) (by decide) (by rw [e1]; exact ⟨9, ⟨by decide, by decide, by omega, Or.inr (by omega)⟩, rfl, N1, rfl⟩)
                  · have k9 : ¬ A < 1000000000 := fun q => g9 ((cmp_lem hi (P := 1000000000) rfl).mpr q)
                    refine OEnds.st (S' := T1.setTop (mkF m 16 #[vi i0, vi (Int32.ofNat sg), vi (-1410065408), vi 10] [])) (fun _ k => ?_) ?_
                    · refine XS.icmpYes X1.here hx rfl (pc0 := 24) (pc' := 31) rfl (hb hby d_jdk_33_13_24) rfl (flt g9).2.2.2 (by decide) (by decide) ?_
                      refine XS.bipush X1.here hx rfl (hb hby d_jdk_33_13_31) ?_
                      refine XS.iloadN X1.here hx rfl (hb hby d_jdk_33_13_33) rfl ?_
                      refine XS.imul X1.here hx rfl (hb hby d_jdk_33_13_34) rfl ?_
                      show Steps p.tables e below (T1.setTop (mkF m 35 #[vi i0, vi (Int32.ofNat sg), vi (-1000000000), vi 9] [(.int (-1410065408))])) _
                      refine XS.istoreN X1.here hx rfl (hb hby d_jdk_33_13_35) rfl (l' := #[vi i0, vi (Int32.ofNat sg), vi (-1410065408), vi 9]) rfl ?_
                      refine XS.iinc X1.here hx rfl (hb hby d_jdk_33_13_36) rfl (l' := #[vi i0, vi (Int32.ofNat sg), vi (-1410065408), vi 10]) rfl ?_
                      refine XS.goto X1.here hx rfl (pc0 := 39) (pc' := 16) rfl (hb hby d_jdk_33_13_39) (by decide) (by decide) ?_
                      exact k
                    refine OEnds.st (S' := T1.setTop (mkF m 46 #[vi i0, vi (Int32.ofNat sg), vi (-1410065408), vi 10] [(.int ((10 : Int32) + (Int32.ofNat sg)))])) (fun _ k => ?_) ?_
                    · refine XS.iloadN X1.here hx rfl (hb hby d_jdk_33_13_16) rfl ?_
                      refine XS.bipush X1.here hx rfl (hb hby d_jdk_33_13_17) ?_
                      refine XS.icmpYes X1.here hx rfl (pc0 := 19) (pc' := 42) rfl (hb hby d_jdk_33_13_19) rfl (flt (by decide)).2.1 (by decide) (by decide) ?_
                      refine XS.bipush X1.here hx rfl (hb hby d_jdk_33_13_42) ?_
                      show Steps p.tables e below (T1.setTop (mkF m 44 #[vi i0, vi (Int32.ofNat sg), vi (-1410065408), vi 10] [(.int 10)])) _
                      refine XS.iloadN X1.here hx rfl (hb hby d_jdk_33_13_44) rfl ?_
                      refine XS.iadd X1.here hx rfl (hb hby d_jdk_33_13_45) rfl ?_
                      exact k
                    rw [show (10 : Int32) + (Int32.ofNat sg) = Int32.ofNat (10 + sg) from ofn_add 10 sg]
                    exact OEnds.ret X1 hx hret hlk rfl (Or.inl ⟨rfl, by simp, _, rfl⟩) (hb hby d_jdk_33_13_46) (by decide) (by decide) (by rw [e1]; exact ⟨10, ⟨by decide, by decide, by omega, Or.inr (by omega)⟩, rfl, N1, rfl⟩)
theorem sg_z {sg : Nat} (hs : sg ≤ 1) (h : Int32.ofNat sg = 0) : sg = 0 := by
  have := congrArg Int32.toInt h
  rw [ofn_toInt (by omega)] at this
  have e0 : (0 : Int32).toInt = 0 := rfl
  omega
theorem sg_o {sg : Nat} (hs : sg ≤ 1) (h : ¬ Int32.ofNat sg = 0) : sg = 1 := by
  have : sg ≠ 0 := fun q => h (by rw [q]; rfl)
  omega
theorem by_sg0 {sg : Nat} {l : List Int32} (h : sg = 0) : bys (List.replicate sg 45 ++ l) = bys l := by rw [h]; rfl
theorem by_sg1 {sg : Nat} {l : List Int32} (h : sg = 1) : bys (List.replicate sg 45 ++ l) = (.int (Int32.ofNat 45)) :: bys l := by rw [h]; rfl
theorem put_b {Z : State} {h : Heap} {t : Addr} {k : ClassId} {cN P P0 n m : Nat} {vs vs0 D r : List Value} (V : Arv Z h t k .byte (Int32.ofNat cN) (List.set vs P (.int (nar .byte (Int32.ofNat m)))) (.int 0)) (hm : m < 128) (hl : vs.length = cN) (hq : P < cN) (hP : P + 1 = P0) (hR : vs.drop P0 = D ++ r) (hT : vs.take n = vs0.take n) (hn : n ≤ P) :
    ∃ l, Arv Z h t k .byte (Int32.ofNat cN) l (.int 0) ∧ l.length = cN ∧ l.drop P = (.int (Int32.ofNat m) :: D) ++ r ∧ l.take n = vs0.take n := by
  rw [nar_small hm] at V
  refine ⟨_, V, by rw [List.length_set]; exact hl, ?_, by rw [tset hn]; exact hT⟩
  rw [dset (by rw [hl]; exact hq), hP, hR]; rfl
-- java/lang/Integer.getChars:(II[B)I
def Q_getCh (Z : State) (x : Int32) (t : Addr) (k : ClassId) (P0 cN n d A sg : Nat) (vs : List Value) (h0 : Heap) (v : Option Value) (h : Heap) (L : List Loc) : Prop := ∃ (r : Int32) (vs' : List Value), v = some (.int r) ∧ Fr Z.heap.size L ∧ Keep h0 h [t] ∧ Arv Z h t k .byte (Int32.ofNat cN) vs' (.int 0) ∧ vs'.length = cN ∧ vs'.take n = vs.take n ∧ vs'.drop n = bys (List.replicate sg 45 ++ dgs A d) ++ vs.drop P0
theorem ef_getCh (m : MethodId) (x : Int32) (t : Addr) : entryFrame m #[(.int x), (.int (Int32.ofNat P0)), (.ref t)] 7 = mkF m 0 #[vi x, vi (Int32.ofNat P0), vr t, .unset, .unset, .unset, .unset] [] := by first | (simp [entryFrame, mkF, argsToLocals, Value.category, vi, vj, vr]; done) | rfl
theorem d_jdk_33_12_0 : decode jdk_33_method_12_code 0 = .ok (.iload_n 1, 1) := by decide +kernel
theorem d_jdk_33_12_1 : decode jdk_33_method_12_code 1 = .ok (.istore 5, 2) := by decide +kernel
theorem d_jdk_33_12_3 : decode jdk_33_method_12_code 3 = .ok (.iload_n 0, 1) := by decide +kernel
theorem d_jdk_33_12_4 : decode jdk_33_method_12_code 4 = .ok (.ifCond .ge 7, 3) := by decide +kernel
theorem d_jdk_33_12_11 : decode jdk_33_method_12_code 11 = .ok (.iconst 0, 1) := by decide +kernel
theorem d_jdk_33_12_12 : decode jdk_33_method_12_code 12 = .ok (.istore 6, 2) := by decide +kernel
theorem d_jdk_33_12_14 : decode jdk_33_method_12_code 14 = .ok (.iload 6, 2) := by decide +kernel
theorem d_jdk_33_12_16 : decode jdk_33_method_12_code 16 = .ok (.ifCond .ne 6, 3) := by decide +kernel
theorem d_jdk_33_12_19 : decode jdk_33_method_12_code 19 = .ok (.iload_n 0, 1) := by decide +kernel
theorem d_jdk_33_12_20 : decode jdk_33_method_12_code 20 = .ok (.ineg, 1) := by decide +kernel
theorem d_jdk_33_12_21 : decode jdk_33_method_12_code 21 = .ok (.istore_n 0, 1) := by decide +kernel
theorem d_jdk_33_12_7 : decode jdk_33_method_12_code 7 = .ok (.iconst 1, 1) := by decide +kernel
theorem d_jdk_33_12_8 : decode jdk_33_method_12_code 8 = .ok (.goto 4, 3) := by decide +kernel
theorem d_jdk_33_12_22 : decode jdk_33_method_12_code 22 = .ok (.iload_n 0, 1) := by decide +kernel
theorem d_jdk_33_12_23 : decode jdk_33_method_12_code 23 = .ok (.bipush (-100), 2) := by decide +kernel
theorem d_jdk_33_12_25 : decode jdk_33_method_12_code 25 = .ok (.if_icmp .gt 47, 3) := by decide +kernel
theorem d_jdk_33_12_72 : decode jdk_33_method_12_code 72 = .ok (.aload_n 2, 1) := by decide +kernel
theorem d_jdk_33_12_73 : decode jdk_33_method_12_code 73 = .ok (.iinc 5 (-1), 3) := by decide +kernel
theorem d_jdk_33_12_76 : decode jdk_33_method_12_code 76 = .ok (.iload 5, 2) := by decide +kernel
theorem d_jdk_33_12_78 : decode jdk_33_method_12_code 78 = .ok (.getstatic 83, 3) := by decide +kernel
theorem d_jdk_33_12_81 : decode jdk_33_method_12_code 81 = .ok (.iload_n 0, 1) := by decide +kernel
theorem d_jdk_33_12_82 : decode jdk_33_method_12_code 82 = .ok (.ineg, 1) := by decide +kernel
theorem d_jdk_33_12_83 : decode jdk_33_method_12_code 83 = .ok (.baload, 1) := by decide +kernel
theorem d_jdk_33_12_84 : decode jdk_33_method_12_code 84 = .ok (.bastore, 1) := by decide +kernel
theorem d_jdk_33_12_85 : decode jdk_33_method_12_code 85 = .ok (.iload_n 0, 1) := by decide +kernel
theorem d_jdk_33_12_86 : decode jdk_33_method_12_code 86 = .ok (.bipush (-9), 2) := by decide +kernel
theorem d_jdk_33_12_88 : decode jdk_33_method_12_code 88 = .ok (.if_icmp .ge 16, 3) := by decide +kernel
theorem d_jdk_33_12_91 : decode jdk_33_method_12_code 91 = .ok (.aload_n 2, 1) := by decide +kernel
theorem d_jdk_33_12_92 : decode jdk_33_method_12_code 92 = .ok (.iinc 5 (-1), 3) := by decide +kernel
theorem d_jdk_33_12_95 : decode jdk_33_method_12_code 95 = .ok (.iload 5, 2) := by decide +kernel
theorem d_jdk_33_12_97 : decode jdk_33_method_12_code 97 = .ok (.getstatic 87, 3) := by decide +kernel
theorem d_jdk_33_12_100 : decode jdk_33_method_12_code 100 = .ok (.iload_n 0, 1) := by decide +kernel
theorem d_jdk_33_12_101 : decode jdk_33_method_12_code 101 = .ok (.ineg, 1) := by decide +kernel
theorem d_jdk_33_12_102 : decode jdk_33_method_12_code 102 = .ok (.baload, 1) := by decide +kernel
theorem d_jdk_33_12_103 : decode jdk_33_method_12_code 103 = .ok (.bastore, 1) := by decide +kernel
theorem d_jdk_33_12_104 : decode jdk_33_method_12_code 104 = .ok (.iload 6, 2) := by decide +kernel
theorem d_jdk_33_12_106 : decode jdk_33_method_12_code 106 = .ok (.ifCond .eq 12, 3) := by decide +kernel
theorem d_jdk_33_12_118 : decode jdk_33_method_12_code 118 = .ok (.iload 5, 2) := by decide +kernel
theorem d_jdk_33_12_120 : decode jdk_33_method_12_code 120 = .ok (.ireturn, 1) := by decide +kernel
theorem d_jdk_33_12_109 : decode jdk_33_method_12_code 109 = .ok (.aload_n 2, 1) := by decide +kernel
theorem d_jdk_33_12_110 : decode jdk_33_method_12_code 110 = .ok (.iinc 5 (-1), 3) := by decide +kernel
theorem d_jdk_33_12_113 : decode jdk_33_method_12_code 113 = .ok (.iload 5, 2) := by decide +kernel
theorem d_jdk_33_12_115 : decode jdk_33_method_12_code 115 = .ok (.bipush 45, 2) := by decide +kernel
theorem d_jdk_33_12_117 : decode jdk_33_method_12_code 117 = .ok (.bastore, 1) := by decide +kernel
theorem d_jdk_33_12_28 : decode jdk_33_method_12_code 28 = .ok (.iload_n 0, 1) := by decide +kernel
theorem d_jdk_33_12_29 : decode jdk_33_method_12_code 29 = .ok (.bipush 100, 2) := by decide +kernel
theorem d_jdk_33_12_31 : decode jdk_33_method_12_code 31 = .ok (.idiv, 1) := by decide +kernel
theorem d_jdk_33_12_32 : decode jdk_33_method_12_code 32 = .ok (.istore_n 3, 1) := by decide +kernel
theorem d_jdk_33_12_33 : decode jdk_33_method_12_code 33 = .ok (.iload_n 3, 1) := by decide +kernel
theorem d_jdk_33_12_34 : decode jdk_33_method_12_code 34 = .ok (.bipush 100, 2) := by decide +kernel
theorem d_jdk_33_12_36 : decode jdk_33_method_12_code 36 = .ok (.imul, 1) := by decide +kernel
theorem d_jdk_33_12_37 : decode jdk_33_method_12_code 37 = .ok (.iload_n 0, 1) := by decide +kernel
theorem d_jdk_33_12_38 : decode jdk_33_method_12_code 38 = .ok (.isub, 1) := by decide +kernel
theorem d_jdk_33_12_39 : decode jdk_33_method_12_code 39 = .ok (.istore 4, 2) := by decide +kernel
theorem d_jdk_33_12_41 : decode jdk_33_method_12_code 41 = .ok (.iload_n 3, 1) := by decide +kernel
theorem d_jdk_33_12_42 : decode jdk_33_method_12_code 42 = .ok (.istore_n 0, 1) := by decide +kernel
theorem d_jdk_33_12_43 : decode jdk_33_method_12_code 43 = .ok (.aload_n 2, 1) := by decide +kernel
theorem d_jdk_33_12_44 : decode jdk_33_method_12_code 44 = .ok (.iinc 5 (-1), 3) := by decide +kernel
theorem d_jdk_33_12_47 : decode jdk_33_method_12_code 47 = .ok (.iload 5, 2) := by decide +kernel
theorem d_jdk_33_12_49 : decode jdk_33_method_12_code 49 = .ok (.getstatic 83, 3) := by decide +kernel
theorem d_jdk_33_12_52 : decode jdk_33_method_12_code 52 = .ok (.iload 4, 2) := by decide +kernel
theorem d_jdk_33_12_54 : decode jdk_33_method_12_code 54 = .ok (.baload, 1) := by decide +kernel
theorem d_jdk_33_12_55 : decode jdk_33_method_12_code 55 = .ok (.bastore, 1) := by decide +kernel
theorem d_jdk_33_12_56 : decode jdk_33_method_12_code 56 = .ok (.aload_n 2, 1) := by decide +kernel
theorem d_jdk_33_12_57 : decode jdk_33_method_12_code 57 = .ok (.iinc 5 (-1), 3) := by decide +kernel
theorem d_jdk_33_12_60 : decode jdk_33_method_12_code 60 = .ok (.iload 5, 2) := by decide +kernel
theorem d_jdk_33_12_62 : decode jdk_33_method_12_code 62 = .ok (.getstatic 87, 3) := by decide +kernel
theorem d_jdk_33_12_65 : decode jdk_33_method_12_code 65 = .ok (.iload 4, 2) := by decide +kernel
theorem d_jdk_33_12_67 : decode jdk_33_method_12_code 67 = .ok (.baload, 1) := by decide +kernel
theorem d_jdk_33_12_68 : decode jdk_33_method_12_code 68 = .ok (.bastore, 1) := by decide +kernel
theorem d_jdk_33_12_69 : decode jdk_33_method_12_code 69 = .ok (.goto (-47), 3) := by decide +kernel
set_option maxRecDepth 65536 in
set_option maxHeartbeats 40000000 in
theorem rm_getCh (l : Launch) {Z : State} {a0 : Array Value} (hD : Wd Z a0) (x : Int32) (t : Addr) (k : ClassId) (P0 cN n d A sg : Nat) (vs : List Value) {h0 : Heap} (O0 : Ext Z.heap h0) (V_t : Arv Z h0 t k .byte (Int32.ofNat cN) vs (.int 0)) (hvs : vs.length = cN) (hcN : cN ≤ 4000) (hroom : P0 ≤ cN) (ge_t : Z.heap.size ≤ t) (hP0 : P0 = (n + d + sg)) (hDig : Dig A d) (hS : (sg = 0 ∧ ¬ x < 0 ∧ A = x.toInt.toNat) ∨ (sg = 1 ∧ x < 0 ∧ A = (-x.toInt).toNat)) (hAb : A ≤ 2147483648) (hsg : sg ≤ 1) :
    Con l Z (⟨"java/lang/Integer", "getChars", "(II[B)I"⟩ : MethodName) jdk_33_method_12_code 7 (some .int) [] ({ frames := 0, cells := 0, slots := 0, locals := 0 } : Room) #[(.int x), (.int (Int32.ofNat P0)), (.ref t)] h0 (Q_getCh Z x t k P0 cN n d A sg vs h0) := by
  refine Con.walk (plainFor_of_name pn_6) ?_
  intro p e s m below meth c T0 X0 hx hZ hby hml hown hnm hret hlk e0
  obtain ⟨hw, ⟨cz, S_CS, hcz⟩, ⟨sf, S_SF, hsf⟩, ⟨d1, d2, kd1, kd2, S_D1, S_D2, V_D1, V_D2⟩⟩ := id hD
  have N0 := Fr.nil Z.heap.size
  have K0 : Keep h0 h0 [t] := Keep.refl _ _
  have V_d1 := V_D1.ext O0
  have V_d2 := V_D2.ext O0
  refine OEnds.cast (ef_getCh m x t) ?_
  have hd1 : 1 ≤ d := hDig.1
  have ne_d1_t : d1 ≠ t := Nat.ne_of_lt (Nat.lt_of_lt_of_le V_D1.lt ge_t)
  have ne_d2_t : d2 ≠ t := Nat.ne_of_lt (Nat.lt_of_lt_of_le V_D2.lt ge_t)
  have R0 : vs.drop P0 = [] ++ vs.drop P0 := rfl
  have T0' : vs.take n = vs.take n := rfl
  refine OEnds.st (S' := T0.setTop (mkF m 3 #[vi x, vi (Int32.ofNat P0), vr t, .unset, .unset, vi (Int32.ofNat P0), .unset] [])) (fun _ k => ?_) ?_
  · refine XS.iloadN X0.here hx rfl (hb hby d_jdk_33_12_0) rfl ?_
    refine XS.istore X0.here hx rfl (hb hby d_jdk_33_12_1) rfl (l' := #[vi x, vi (Int32.ofNat P0), vr t, .unset, .unset, vi (Int32.ofNat P0), .unset]) rfl ?_
    exact k
  obtain ⟨_, ⟨i0, T1, lc1, fj1, X1, e1, N1, rfl⟩, st1⟩ : OJ p e below (fun S' => ∃ (i0 : Int32) (T' : State) (lc : List Loc), (i0.toInt = -(A : Int)) ∧ Stand p l e ({ frames := 0, cells := 0, slots := 0, locals := 0 } : Room) s m #[(.int x), (.int (Int32.ofNat P0)), (.ref t)] below meth c T' lc 0 0 ∧ T'.heap = h0 ∧ Fr Z.heap.size lc ∧ S' = T'.setTop (mkF m 22 #[vi i0, vi (Int32.ofNat P0), vr t, .unset, .unset, vi (Int32.ofNat P0), vi (Int32.ofNat sg)] [])) (T0.setTop (mkF m 3 #[vi x, vi (Int32.ofNat P0), vr t, .unset, .unset, vi (Int32.ofNat P0), .unset] [])) := by
    rcases hS with ⟨rfl, q, hA⟩ | ⟨rfl, q, hA⟩
    · refine OJ.st (S' := T0.setTop (mkF m 22 #[vi (-x), vi (Int32.ofNat P0), vr t, .unset, .unset, vi (Int32.ofNat P0), vi 0] [])) (fun _ k => ?_) ?_
      · refine XS.iloadN X0.here hx rfl (hb hby d_jdk_33_12_3) rfl ?_
        refine XS.ifYes X0.here hx rfl (pc0 := 4) (pc' := 11) rfl (hb hby d_jdk_33_12_4) rfl ((if0 _ _).trans (flt q).2.1) (by decide) (by decide) ?_
        refine XS.iconst X0.here hx rfl (hb hby d_jdk_33_12_11) ?_
        refine XS.istore X0.here hx rfl (hb hby d_jdk_33_12_12) rfl (l' := #[vi x, vi (Int32.ofNat P0), vr t, .unset, .unset, vi (Int32.ofNat P0), vi 0]) rfl ?_
        show Steps p.tables e below (T0.setTop (mkF m 14 #[vi x, vi (Int32.ofNat P0), vr t, .unset, .unset, vi (Int32.ofNat P0), vi 0] [])) _
        refine XS.iload X0.here hx rfl (hb hby d_jdk_33_12_14) rfl ?_
        refine XS.ifNo X0.here hx rfl (hb hby d_jdk_33_12_16) rfl ((if0 _ _).trans (teq (by decide)).2) ?_
        refine XS.iloadN X0.here hx rfl (hb hby d_jdk_33_12_19) rfl ?_
        refine XS.ineg X0.here hx rfl (hb hby d_jdk_33_12_20) rfl ?_
        show Steps p.tables e below (T0.setTop (mkF m 21 #[vi x, vi (Int32.ofNat P0), vr t, .unset, .unset, vi (Int32.ofNat P0), vi 0] [(.int (-x))])) _
        refine XS.istoreN X0.here hx rfl (hb hby d_jdk_33_12_21) rfl (l' := #[vi (-x), vi (Int32.ofNat P0), vr t, .unset, .unset, vi (Int32.ofNat P0), vi 0]) rfl ?_
        exact k
      exact OJ.here ⟨(-x), T0, _, hA ▸ (pos_lem q).1, X0, e0, N0, rfl⟩
    · refine OJ.st (S' := T0.setTop (mkF m 22 #[vi x, vi (Int32.ofNat P0), vr t, .unset, .unset, vi (Int32.ofNat P0), vi 1] [])) (fun _ k => ?_) ?_
      · refine XS.iloadN X0.here hx rfl (hb hby d_jdk_33_12_3) rfl ?_
        refine XS.ifNo X0.here hx rfl (hb hby d_jdk_33_12_4) rfl ((if0 _ _).trans (tlt q).2.1) ?_
        refine XS.iconst X0.here hx rfl (hb hby d_jdk_33_12_7) ?_
        refine XS.goto X0.here hx rfl (pc0 := 8) (pc' := 12) rfl (hb hby d_jdk_33_12_8) (by decide) (by decide) ?_
        show Steps p.tables e below (T0.setTop (mkF m 12 #[vi x, vi (Int32.ofNat P0), vr t, .unset, .unset, vi (Int32.ofNat P0), .unset] [(.int 1)])) _
        refine XS.istore X0.here hx rfl (hb hby d_jdk_33_12_12) rfl (l' := #[vi x, vi (Int32.ofNat P0), vr t, .unset, .unset, vi (Int32.ofNat P0), vi 1]) rfl ?_
        refine XS.iload X0.here hx rfl (hb hby d_jdk_33_12_14) rfl ?_
        refine XS.ifYes X0.here hx rfl (pc0 := 16) (pc' := 22) rfl (hb hby d_jdk_33_12_16) rfl ((if0 _ _).trans (feq (by decide)).2) (by decide) (by decide) ?_
        exact k
      exact OJ.here ⟨x, T0, _, hA ▸ (ngt_lem q).1, X0, e0, N0, rfl⟩
  refine OEnds.st st1 ?_
  have hi := fj1
  obtain ⟨B0, hB0⟩ : ∃ b, b = A := ⟨_, rfl⟩
  rw [← hB0] at hi
  refine OEnds.st (S' := T1.setTop (mkF m 25 #[vi i0, vi (Int32.ofNat P0), vr t, .unset, .unset, vi (Int32.ofNat P0), vi (Int32.ofNat sg)] [(.int (-100)), (.int i0)])) (fun _ k => ?_) ?_
  · refine XS.iloadN X1.here hx rfl (hb hby d_jdk_33_12_22) rfl ?_
    refine XS.bipush X1.here hx rfl (hb hby d_jdk_33_12_23) ?_
    exact k
  rcases Classical.em ((-100 : Int32) < i0) with g0 | g0
  · have b0 : B0 < 100 := (cmp_lem (P := 100) hi rfl).mp g0
    refine OEnds.st (S' := T1.setTop (mkF m 72 #[vi i0, vi (Int32.ofNat P0), vr t, .unset, .unset, vi (Int32.ofNat P0), vi (Int32.ofNat sg)] [])) (fun _ k => ?_) ?_
    · refine XS.icmpYes X1.here hx rfl (pc0 := 25) (pc' := 72) rfl (hb hby d_jdk_33_12_25) rfl (tlt g0).2.2.1 (by decide) (by decide) ?_
      exact k
    refine OEnds.st (S' := T1.setTop (mkF m 73 #[vi i0, vi (Int32.ofNat P0), vr t, .unset, .unset, vi (Int32.ofNat P0), vi (Int32.ofNat sg)] [(.ref t)])) (fun _ k => ?_) ?_
    · refine XS.aloadN X1.here hx rfl (hb hby d_jdk_33_12_72) rfl rfl ?_
      exact k
    refine OEnds.st (S' := T1.setTop (mkF m 76 #[vi i0, vi (Int32.ofNat P0), vr t, .unset, .unset, vi ((Int32.ofNat P0) + (-1 : Int32)), vi (Int32.ofNat sg)] [(.ref t)])) (fun _ k => ?_) ?_
    · refine XS.iinc X1.here hx rfl (hb hby d_jdk_33_12_73) rfl (l' := #[vi i0, vi (Int32.ofNat P0), vr t, .unset, .unset, vi ((Int32.ofNat P0) + (-1 : Int32)), vi (Int32.ofNat sg)]) rfl ?_
      exact k
    obtain ⟨P1, hP1⟩ : ∃ p, p = P0 - 1 := ⟨_, rfl⟩
    rw [show Int32.ofNat P0 + (-1 : Int32) = Int32.ofNat P1 from hP1 ▸ ofn_dec (by omega)]
    refine OEnds.st (S' := T1.setTop (mkF m 78 #[vi i0, vi (Int32.ofNat P0), vr t, .unset, .unset, vi (Int32.ofNat P1), vi (Int32.ofNat sg)] [(.int (Int32.ofNat P1)), (.ref t)])) (fun _ k => ?_) ?_
    · refine XS.iload X1.here hx rfl (hb hby d_jdk_33_12_76) rfl ?_
      exact k
    obtain ⟨T2, X2, e2, st2⟩ := getS2 X1 hx hZ hown (host := "") (Or.inl (wq hw 131 rfl)) Via.refl e1 (S_D1.ext O0) (g := (mkF m 78 #[vi i0, vi (Int32.ofNat P0), vr t, .unset, .unset, vi (Int32.ofNat P1), vi (Int32.ofNat sg)] [(.int (Int32.ofNat P1)), (.ref t)])) rfl (hb hby d_jdk_33_12_78)
    refine OEnds.st st2 ?_
    refine OEnds.st (S' := T2.setTop (mkF m 83 #[vi i0, vi (Int32.ofNat P0), vr t, .unset, .unset, vi (Int32.ofNat P1), vi (Int32.ofNat sg)] [(.int (-i0)), (.ref d1), (.int (Int32.ofNat P1)), (.ref t)])) (fun _ k => ?_) ?_
    · refine XS.iloadN X2.here hx rfl (hb hby d_jdk_33_12_81) rfl ?_
      refine XS.ineg X2.here hx rfl (hb hby d_jdk_33_12_82) rfl ?_
      exact k
    rw [neg_lem (B := B0) (by omega) hi]
    obtain ⟨cl_d1_3, Ar_d1_3, q_d1_3, S_d1_3, N_d1_3, H_d1_3, G_d1_3⟩ := id V_d1
    refine OEnds.st (S' := T2.setTop (mkF m 84 #[vi i0, vi (Int32.ofNat P0), vr t, .unset, .unset, vi (Int32.ofNat P1), vi (Int32.ofNat sg)] [(.int (Int32.ofNat (48 + B0 % 10))), (.int (Int32.ofNat P1)), (.ref t)])) (X2.baloadBytes hx (j := (Int32.ofNat B0)) (v := (.int (Int32.ofNat (48 + B0 % 10)))) (by rw [e2]; exact Ar_d1_3.1) (State.isArrayOf_alike hZ.alike Ar_d1_3.2.1) Ar_d1_3.2.2 (inb_of S_d1_3 (dig_in (m := B0) (by omega))) (H_d1_3.at (inb_of S_d1_3 (dig_in (m := B0) (by omega))) (digO_at (m := B0) (by omega))) (g := (mkF m 83 #[vi i0, vi (Int32.ofNat P0), vr t, .unset, .unset, vi (Int32.ofNat P1), vi (Int32.ofNat sg)] [(.int (Int32.ofNat B0)), (.ref d1), (.int (Int32.ofNat P1)), (.ref t)])) rfl rfl (hb hby d_jdk_33_12_83)) ?_
    obtain ⟨m1, hm1⟩ : ∃ m, m = 48 + B0 % 10 := ⟨_, rfl⟩
    rw [show Int32.ofNat (48 + B0 % 10) = Int32.ofNat m1 from congrArg _ hm1.symm]
    have q1 : P1 < cN := by omega
    obtain ⟨cl_t_4, Ar_t_4, q_t_4, S_t_4, N_t_4, H_t_4, G_t_4⟩ := V_t
    obtain ⟨T4, h4, X4, e4, W4, st4⟩ := stB X2 hx hZ e2 Ar_t_4 (j := (Int32.ofNat P1)) (inb_of S_t_4 (ix_in q1 hcN)) (g := (mkF m 84 #[vi i0, vi (Int32.ofNat P0), vr t, .unset, .unset, vi (Int32.ofNat P1), vi (Int32.ofNat sg)] [(.int (Int32.ofNat m1)), (.int (Int32.ofNat P1)), (.ref t)])) rfl rfl (hb hby d_jdk_33_12_84)
    have V_t_4 : Arv Z h4 t k .byte (Int32.ofNat cN) (List.set vs P1 (.int (nar .byte (Int32.ofNat m1)))) (.int 0) := Arv.set Ar_t_4 q_t_4 S_t_4 N_t_4 H_t_4 G_t_4 (fits_nar_byte _) W4 P1 (ofn_clamp (by omega)) (by rw [hvs]; exact q1)
    refine OEnds.st st4 ?_
    replace V_d1 := V_d1.other W4 ne_d1_t
    replace V_d2 := V_d2.other W4 ne_d2_t
    replace O0 : Ext Z.heap h4 := ext_wr O0 W4 ge_t
    replace N1 := Fr.snoc X4 N1 ge_t
    replace K0 : Keep h0 h4 [t] := K0.wr W4 (Or.inl (List.mem_of_getElem? (i := 0) rfl))
    obtain ⟨vs1, V_vs1, hl1, R1, T1'⟩ : ∃ l, Arv Z h4 t k .byte (Int32.ofNat cN) l (.int 0) ∧ l.length = cN ∧ l.drop P1 = [(.int (Int32.ofNat m1))] ++ vs.drop P0 ∧ l.take n = vs.take n := put_b V_t_4 (by omega) hvs q1 (by omega) R0 T0' (by omega)
    refine OEnds.st (S' := T4.setTop (mkF m 88 #[vi i0, vi (Int32.ofNat P0), vr t, .unset, .unset, vi (Int32.ofNat P1), vi (Int32.ofNat sg)] [(.int (-9)), (.int i0)])) (fun _ k => ?_) ?_
    · refine XS.iloadN X4.here hx rfl (hb hby d_jdk_33_12_85) rfl ?_
      refine XS.bipush X4.here hx rfl (hb hby d_jdk_33_12_86) ?_
      exact k
    rcases Classical.em (i0 < (-9 : Int32)) with g9 | g9
    · have c0 : 9 < B0 := (cmp2_lem (P := 9) hi rfl).mp g9
      have ee0 : 1 < d := dig_ge hDig (by omega)
      refine OEnds.st (S' := T4.setTop (mkF m 91 #[vi i0, vi (Int32.ofNat P0), vr t, .unset, .unset, vi (Int32.ofNat P1), vi (Int32.ofNat sg)] [])) (fun _ k => ?_) ?_
      · refine XS.icmpNo X4.here hx rfl (hb hby d_jdk_33_12_88) rfl (tlt g9).2.1 ?_
        exact k
      refine OEnds.st (S' := T4.setTop (mkF m 92 #[vi i0, vi (Int32.ofNat P0), vr t, .unset, .unset, vi (Int32.ofNat P1), vi (Int32.ofNat sg)] [(.ref t)])) (fun _ k => ?_) ?_
      · refine XS.aloadN X4.here hx rfl (hb hby d_jdk_33_12_91) rfl rfl ?_
        exact k
      refine OEnds.st (S' := T4.setTop (mkF m 95 #[vi i0, vi (Int32.ofNat P0), vr t, .unset, .unset, vi ((Int32.ofNat P1) + (-1 : Int32)), vi (Int32.ofNat sg)] [(.ref t)])) (fun _ k => ?_) ?_
      · refine XS.iinc X4.here hx rfl (hb hby d_jdk_33_12_92) rfl (l' := #[vi i0, vi (Int32.ofNat P0), vr t, .unset, .unset, vi ((Int32.ofNat P1) + (-1 : Int32)), vi (Int32.ofNat sg)]) rfl ?_
        exact k
      obtain ⟨P2, hP2⟩ : ∃ p, p = P1 - 1 := ⟨_, rfl⟩
      rw [show Int32.ofNat P1 + (-1 : Int32) = Int32.ofNat P2 from hP2 ▸ ofn_dec (by omega)]
      refine OEnds.st (S' := T4.setTop (mkF m 97 #[vi i0, vi (Int32.ofNat P0), vr t, .unset, .unset, vi (Int32.ofNat P2), vi (Int32.ofNat sg)] [(.int (Int32.ofNat P2)), (.ref t)])) (fun _ k => ?_) ?_
      · refine XS.iload X4.here hx rfl (hb hby d_jdk_33_12_95) rfl ?_
        exact k
      obtain ⟨T5, X5, e5, st5⟩ := getS2 X4 hx hZ hown (host := "") (Or.inl (wq hw 247 rfl)) Via.refl e4 (S_D2.ext O0) (g := (mkF m 97 #[vi i0, vi (Int32.ofNat P0), vr t, .unset, .unset, vi (Int32.ofNat P2), vi (Int32.ofNat sg)] [(.int (Int32.ofNat P2)), (.ref t)])) rfl (hb hby d_jdk_33_12_97)
      refine OEnds.st st5 ?_
      refine OEnds.st (S' := T5.setTop (mkF m 102 #[vi i0, vi (Int32.ofNat P0), vr t, .unset, .unset, vi (Int32.ofNat P2), vi (Int32.ofNat sg)] [(.int (-i0)), (.ref d2), (.int (Int32.ofNat P2)), (.ref t)])) (fun _ k => ?_) ?_
      · refine XS.iloadN X5.here hx rfl (hb hby d_jdk_33_12_100) rfl ?_
        refine XS.ineg X5.here hx rfl (hb hby d_jdk_33_12_101) rfl ?_
        exact k
      rw [neg_lem (B := B0) (by omega) hi]
      obtain ⟨cl_d2_6, Ar_d2_6, q_d2_6, S_d2_6, N_d2_6, H_d2_6, G_d2_6⟩ := id V_d2
      refine OEnds.st (S' := T5.setTop (mkF m 103 #[vi i0, vi (Int32.ofNat P0), vr t, .unset, .unset, vi (Int32.ofNat P2), vi (Int32.ofNat sg)] [(.int (Int32.ofNat (48 + B0 / 10))), (.int (Int32.ofNat P2)), (.ref t)])) (X5.baloadBytes hx (j := (Int32.ofNat B0)) (v := (.int (Int32.ofNat (48 + B0 / 10)))) (by rw [e5]; exact Ar_d2_6.1) (State.isArrayOf_alike hZ.alike Ar_d2_6.2.1) Ar_d2_6.2.2 (inb_of S_d2_6 (dig_in (m := B0) (by omega))) (H_d2_6.at (inb_of S_d2_6 (dig_in (m := B0) (by omega))) (digT_at (m := B0) (by omega))) (g := (mkF m 102 #[vi i0, vi (Int32.ofNat P0), vr t, .unset, .unset, vi (Int32.ofNat P2), vi (Int32.ofNat sg)] [(.int (Int32.ofNat B0)), (.ref d2), (.int (Int32.ofNat P2)), (.ref t)])) rfl rfl (hb hby d_jdk_33_12_102)) ?_
      obtain ⟨m2, hm2⟩ : ∃ m, m = 48 + B0 / 10 := ⟨_, rfl⟩
      rw [show Int32.ofNat (48 + B0 / 10) = Int32.ofNat m2 from congrArg _ hm2.symm]
      have q2 : P2 < cN := by omega
      obtain ⟨cl_t_7, Ar_t_7, q_t_7, S_t_7, N_t_7, H_t_7, G_t_7⟩ := V_vs1
      obtain ⟨T7, h7, X7, e7, W7, st7⟩ := stB X5 hx hZ e5 Ar_t_7 (j := (Int32.ofNat P2)) (inb_of S_t_7 (ix_in q2 hcN)) (g := (mkF m 103 #[vi i0, vi (Int32.ofNat P0), vr t, .unset, .unset, vi (Int32.ofNat P2), vi (Int32.ofNat sg)] [(.int (Int32.ofNat m2)), (.int (Int32.ofNat P2)), (.ref t)])) rfl rfl (hb hby d_jdk_33_12_103)
      have V_t_7 : Arv Z h7 t k .byte (Int32.ofNat cN) (List.set vs1 P2 (.int (nar .byte (Int32.ofNat m2)))) (.int 0) := Arv.set Ar_t_7 q_t_7 S_t_7 N_t_7 H_t_7 G_t_7 (fits_nar_byte _) W7 P2 (ofn_clamp (by omega)) (by rw [hl1]; exact q2)
      refine OEnds.st st7 ?_
      replace V_d1 := V_d1.other W7 ne_d1_t
      replace V_d2 := V_d2.other W7 ne_d2_t
      replace O0 : Ext Z.heap h7 := ext_wr O0 W7 ge_t
      replace N1 := Fr.snoc X7 N1 ge_t
      replace K0 : Keep h0 h7 [t] := K0.wr W7 (Or.inl (List.mem_of_getElem? (i := 0) rfl))
      obtain ⟨vs2, V_vs2, hl2, R2, T2'⟩ : ∃ l, Arv Z h7 t k .byte (Int32.ofNat cN) l (.int 0) ∧ l.length = cN ∧ l.drop P2 = [(.int (Int32.ofNat m2)), (.int (Int32.ofNat m1))] ++ vs.drop P0 ∧ l.take n = vs.take n := put_b V_t_7 (by omega) hl1 q2 (by omega) R1 T1' (by omega)
      have hA2 : A < 10 ^ 2 := by omega
      have hdd : d = 2 := Nat.le_antisymm (dig_le hDig (by decide) hA2) (by have := dig_ge (k := 1) hDig (by omega); omega)
      have hbq : bys (dgs A d) = [(.int (Int32.ofNat m2)), (.int (Int32.ofNat m1))] := by
        rw [hdd, dgs_2 hA2]; simp only [bys, List.map_cons, List.map_nil]
        rw [b8_small (by omega), b8_small (by omega)]
        simp only [hm1, hm2, hB0]
      refine OEnds.st (S' := T7.setTop (mkF m 106 #[vi i0, vi (Int32.ofNat P0), vr t, .unset, .unset, vi (Int32.ofNat P2), vi (Int32.ofNat sg)] [(.int (Int32.ofNat sg))])) (fun _ k => ?_) ?_
      · refine XS.iload X7.here hx rfl (hb hby d_jdk_33_12_104) rfl ?_
        exact k
      rcases Classical.em ((Int32.ofNat sg) = (0 : Int32)) with gs | gs
      · have s0 : sg = 0 := sg_z hsg gs
        refine OEnds.st (S' := T7.setTop (mkF m 120 #[vi i0, vi (Int32.ofNat P0), vr t, .unset, .unset, vi (Int32.ofNat P2), vi (Int32.ofNat sg)] [(.int (Int32.ofNat P2))])) (fun _ k => ?_) ?_
        · refine XS.ifYes X7.here hx rfl (pc0 := 106) (pc' := 118) rfl (hb hby d_jdk_33_12_106) rfl ((if0 _ _).trans (teq gs).1) (by decide) (by decide) ?_
          refine XS.iload X7.here hx rfl (hb hby d_jdk_33_12_118) rfl ?_
          exact k
        exact OEnds.ret X7 hx hret hlk rfl (Or.inl ⟨rfl, by simp, _, rfl⟩) (hb hby d_jdk_33_12_120) (by decide) (by decide) (by rw [e7]; exact ⟨_, vs2, rfl, N1, K0, V_vs2, hl2, T2', by rw [by_sg0 s0, hbq, show n = P2 from by omega]; exact R2⟩)
      · have s1 : sg = 1 := sg_o hsg gs
        refine OEnds.st (S' := T7.setTop (mkF m 110 #[vi i0, vi (Int32.ofNat P0), vr t, .unset, .unset, vi (Int32.ofNat P2), vi (Int32.ofNat sg)] [(.ref t)])) (fun _ k => ?_) ?_
        · refine XS.ifNo X7.here hx rfl (hb hby d_jdk_33_12_106) rfl ((if0 _ _).trans (feq gs).1) ?_
          refine XS.aloadN X7.here hx rfl (hb hby d_jdk_33_12_109) rfl rfl ?_
          exact k
        refine OEnds.st (S' := T7.setTop (mkF m 113 #[vi i0, vi (Int32.ofNat P0), vr t, .unset, .unset, vi ((Int32.ofNat P2) + (-1 : Int32)), vi (Int32.ofNat sg)] [(.ref t)])) (fun _ k => ?_) ?_
        · refine XS.iinc X7.here hx rfl (hb hby d_jdk_33_12_110) rfl (l' := #[vi i0, vi (Int32.ofNat P0), vr t, .unset, .unset, vi ((Int32.ofNat P2) + (-1 : Int32)), vi (Int32.ofNat sg)]) rfl ?_
          exact k
        obtain ⟨P3, hP3⟩ : ∃ p, p = P2 - 1 := ⟨_, rfl⟩
        rw [show Int32.ofNat P2 + (-1 : Int32) = Int32.ofNat P3 from hP3 ▸ ofn_dec (by omega)]
        refine OEnds.st (S' := T7.setTop (mkF m 117 #[vi i0, vi (Int32.ofNat P0), vr t, .unset, .unset, vi (Int32.ofNat P3), vi (Int32.ofNat sg)] [(.int 45), (.int (Int32.ofNat P3)), (.ref t)])) (fun _ k => ?_) ?_
        · refine XS.iload X7.here hx rfl (hb hby d_jdk_33_12_113) rfl ?_
          refine XS.bipush X7.here hx rfl (hb hby d_jdk_33_12_115) ?_
          exact k
        obtain ⟨m3, hm3⟩ : ∃ m, m = 45 := ⟨_, rfl⟩
        rw [show (45 : Int32) = Int32.ofNat m3 from by rw [hm3]; rfl]
        have q3 : P3 < cN := by omega
        obtain ⟨cl_t_8, Ar_t_8, q_t_8, S_t_8, N_t_8, H_t_8, G_t_8⟩ := V_vs2
        obtain ⟨T8, h8, X8, e8, W8, st8⟩ := stB X7 hx hZ e7 Ar_t_8 (j := (Int32.ofNat P3)) (inb_of S_t_8 (ix_in q3 hcN)) (g := (mkF m 117 #[vi i0, vi (Int32.ofNat P0), vr t, .unset, .unset, vi (Int32.ofNat P3), vi (Int32.ofNat sg)] [(.int (Int32.ofNat m3)), (.int (Int32.ofNat P3)), (.ref t)])) rfl rfl (hb hby d_jdk_33_12_117)
        have V_t_8 : Arv Z h8 t k .byte (Int32.ofNat cN) (List.set vs2 P3 (.int (nar .byte (Int32.ofNat m3)))) (.int 0) := Arv.set Ar_t_8 q_t_8 S_t_8 N_t_8 H_t_8 G_t_8 (fits_nar_byte _) W8 P3 (ofn_clamp (by omega)) (by rw [hl2]; exact q3)
        refine OEnds.st st8 ?_
        replace V_d1 := V_d1.other W8 ne_d1_t
        replace V_d2 := V_d2.other W8 ne_d2_t
        replace O0 : Ext Z.heap h8 := ext_wr O0 W8 ge_t
        replace N1 := Fr.snoc X8 N1 ge_t
        replace K0 : Keep h0 h8 [t] := K0.wr W8 (Or.inl (List.mem_of_getElem? (i := 0) rfl))
        obtain ⟨vs3, V_vs3, hl3, R3, T3'⟩ : ∃ l, Arv Z h8 t k .byte (Int32.ofNat cN) l (.int 0) ∧ l.length = cN ∧ l.drop P3 = [(.int (Int32.ofNat m3)), (.int (Int32.ofNat m2)), (.int (Int32.ofNat m1))] ++ vs.drop P0 ∧ l.take n = vs.take n := put_b V_t_8 (by omega) hl2 q3 (by omega) R2 T2' (by omega)
        refine OEnds.st (S' := T8.setTop (mkF m 120 #[vi i0, vi (Int32.ofNat P0), vr t, .unset, .unset, vi (Int32.ofNat P3), vi (Int32.ofNat sg)] [(.int (Int32.ofNat P3))])) (fun _ k => ?_) ?_
        · refine XS.iload X8.here hx rfl (hb hby d_jdk_33_12_118) rfl ?_
          exact k
        exact OEnds.ret X8 hx hret hlk rfl (Or.inl ⟨rfl, by simp, _, rfl⟩) (hb hby d_jdk_33_12_120) (by decide) (by decide) (by rw [e8]; exact ⟨_, vs3, rfl, N1, K0, V_vs3, hl3, T3', by rw [by_sg1 s1, ← hm3, hbq, show n = P3 from by omega]; exact R3⟩)
    · have c0 : B0 < 10 := Nat.lt_of_not_le (fun q => g9 ((cmp2_lem (P := 9) hi rfl).mpr (by omega)))
      have hA1 : A < 10 ^ 1 := by omega
      have hdd : d = 1 := Nat.le_antisymm (dig_le hDig (by decide) hA1) (by exact hd1)
      have hbq : bys (dgs A d) = [(.int (Int32.ofNat m1))] := by
        rw [hdd, dgs_1 hA1]; simp only [bys, List.map_cons, List.map_nil]
        rw [b8_small (by omega)]
        simp only [hm1, hB0]
      refine OEnds.st (S' := T4.setTop (mkF m 106 #[vi i0, vi (Int32.ofNat P0), vr t, .unset, .unset, vi (Int32.ofNat P1), vi (Int32.ofNat sg)] [(.int (Int32.ofNat sg))])) (fun _ k => ?_) ?_
      · refine XS.icmpYes X4.here hx rfl (pc0 := 88) (pc' := 104) rfl (hb hby d_jdk_33_12_88) rfl (flt g9).2.1 (by decide) (by decide) ?_
        refine XS.iload X4.here hx rfl (hb hby d_jdk_33_12_104) rfl ?_
        exact k
      rcases Classical.em ((Int32.ofNat sg) = (0 : Int32)) with gs | gs
      · have s0 : sg = 0 := sg_z hsg gs
        refine OEnds.st (S' := T4.setTop (mkF m 120 #[vi i0, vi (Int32.ofNat P0), vr t, .unset, .unset, vi (Int32.ofNat P1), vi (Int32.ofNat sg)] [(.int (Int32.ofNat P1))])) (fun _ k => ?_) ?_
        · refine XS.ifYes X4.here hx rfl (pc0 := 106) (pc' := 118) rfl (hb hby d_jdk_33_12_106) rfl ((if0 _ _).trans (teq gs).1) (by decide) (by decide) ?_
          refine XS.iload X4.here hx rfl (hb hby d_jdk_33_12_118) rfl ?_
          exact k
        exact OEnds.ret X4 hx hret hlk rfl (Or.inl ⟨rfl, by simp, _, rfl⟩) (hb hby d_jdk_33_12_120) (by decide) (by decide) (by rw [e4]; exact ⟨_, vs1, rfl, N1, K0, V_vs1, hl1, T1', by rw [by_sg0 s0, hbq, show n = P1 from by omega]; exact R1⟩)
      · have s1 : sg = 1 := sg_o hsg gs
        refine OEnds.st (S' := T4.setTop (mkF m 110 #[vi i0, vi (Int32.ofNat P0), vr t, .unset, .unset, vi (Int32.ofNat P1), vi (Int32.ofNat sg)] [(.ref t)])) (fun _ k => ?_) ?_
        · refine XS.ifNo X4.here hx rfl (hb hby d_jdk_33_12_106) rfl ((if0 _ _).trans (feq gs).1) ?_
          refine XS.aloadN X4.here hx rfl (hb hby d_jdk_33_12_109) rfl rfl ?_
          exact k
        refine OEnds.st (S' := T4.setTop (mkF m 113 #[vi i0, vi (Int32.ofNat P0), vr t, .unset, .unset, vi ((Int32.ofNat P1) + (-1 : Int32)), vi (Int32.ofNat sg)] [(.ref t)])) (fun _ k => ?_) ?_
        · refine XS.iinc X4.here hx rfl (hb hby d_jdk_33_12_110) rfl (l' := #[vi i0, vi (Int32.ofNat P0), vr t, .unset, .unset, vi ((Int32.ofNat P1) + (-1 : Int32)), vi (Int32.ofNat sg)]) rfl ?_
          exact k
        obtain ⟨P2, hP2⟩ : ∃ p, p = P1 - 1 := ⟨_, rfl⟩
        rw [show Int32.ofNat P1 + (-1 : Int32) = Int32.ofNat P2 from hP2 ▸ ofn_dec (by omega)]
        refine OEnds.st (S' := T4.setTop (mkF m 117 #[vi i0, vi (Int32.ofNat P0), vr t, .unset, .unset, vi (Int32.ofNat P2), vi (Int32.ofNat sg)] [(.int 45), (.int (Int32.ofNat P2)), (.ref t)])) (fun _ k => ?_) ?_
        · refine XS.iload X4.here hx rfl (hb hby d_jdk_33_12_113) rfl ?_
          refine XS.bipush X4.here hx rfl (hb hby d_jdk_33_12_115) ?_
          exact k
        obtain ⟨m2, hm2⟩ : ∃ m, m = 45 := ⟨_, rfl⟩
        rw [show (45 : Int32) = Int32.ofNat m2 from by rw [hm2]; rfl]
        have q2 : P2 < cN := by omega
        obtain ⟨cl_t_5, Ar_t_5, q_t_5, S_t_5, N_t_5, H_t_5, G_t_5⟩ := V_vs1
        obtain ⟨T5, h5, X5, e5, W5, st5⟩ := stB X4 hx hZ e4 Ar_t_5 (j := (Int32.ofNat P2)) (inb_of S_t_5 (ix_in q2 hcN)) (g := (mkF m 117 #[vi i0, vi (Int32.ofNat P0), vr t, .unset, .unset, vi (Int32.ofNat P2), vi (Int32.ofNat sg)] [(.int (Int32.ofNat m2)), (.int (Int32.ofNat P2)), (.ref t)])) rfl rfl (hb hby d_jdk_33_12_117)
        have V_t_5 : Arv Z h5 t k .byte (Int32.ofNat cN) (List.set vs1 P2 (.int (nar .byte (Int32.ofNat m2)))) (.int 0) := Arv.set Ar_t_5 q_t_5 S_t_5 N_t_5 H_t_5 G_t_5 (fits_nar_byte _) W5 P2 (ofn_clamp (by omega)) (by rw [hl1]; exact q2)
        refine OEnds.st st5 ?_
        replace V_d1 := V_d1.other W5 ne_d1_t
        replace V_d2 := V_d2.other W5 ne_d2_t
        replace O0 : Ext Z.heap h5 := ext_wr O0 W5 ge_t
        replace N1 := Fr.snoc X5 N1 ge_t
        replace K0 : Keep h0 h5 [t] := K0.wr W5 (Or.inl (List.mem_of_getElem? (i := 0) rfl))
        obtain ⟨vs2, V_vs2, hl2, R2, T2'⟩ : ∃ l, Arv Z h5 t k .byte (Int32.ofNat cN) l (.int 0) ∧ l.length = cN ∧ l.drop P2 = [(.int (Int32.ofNat m2)), (.int (Int32.ofNat m1))] ++ vs.drop P0 ∧ l.take n = vs.take n := put_b V_t_5 (by omega) hl1 q2 (by omega) R1 T1' (by omega)
        refine OEnds.st (S' := T5.setTop (mkF m 120 #[vi i0, vi (Int32.ofNat P0), vr t, .unset, .unset, vi (Int32.ofNat P2), vi (Int32.ofNat sg)] [(.int (Int32.ofNat P2))])) (fun _ k => ?_) ?_
        · refine XS.iload X5.here hx rfl (hb hby d_jdk_33_12_118) rfl ?_
          exact k
        exact OEnds.ret X5 hx hret hlk rfl (Or.inl ⟨rfl, by simp, _, rfl⟩) (hb hby d_jdk_33_12_120) (by decide) (by decide) (by rw [e5]; exact ⟨_, vs2, rfl, N1, K0, V_vs2, hl2, T2', by rw [by_sg1 s1, ← hm2, hbq, show n = P2 from by omega]; exact R2⟩)
  · have b0 : ¬ B0 < 100 := fun q => g0 ((cmp_lem (P := 100) hi rfl).mpr q)
    have dd0 : 2 < d := dig_ge hDig (by omega)
    obtain ⟨B1, hB1⟩ : ∃ b, b = B0 / 100 := ⟨_, rfl⟩
    obtain ⟨r0, hr0⟩ : ∃ b, b = B0 % 100 := ⟨_, rfl⟩
    refine OEnds.st (S' := T1.setTop (mkF m 33 #[vi i0, vi (Int32.ofNat P0), vr t, vi (i0 / (100 : Int32)), .unset, vi (Int32.ofNat P0), vi (Int32.ofNat sg)] [])) (fun _ k => ?_) ?_
    · refine XS.icmpNo X1.here hx rfl (hb hby d_jdk_33_12_25) rfl (flt g0).2.2.1 ?_
      refine XS.iloadN X1.here hx rfl (hb hby d_jdk_33_12_28) rfl ?_
      refine XS.bipush X1.here hx rfl (hb hby d_jdk_33_12_29) ?_
      refine XS.idiv X1.here hx rfl (hb hby d_jdk_33_12_31) rfl (by decide) ?_
      show Steps p.tables e below (T1.setTop (mkF m 32 #[vi i0, vi (Int32.ofNat P0), vr t, .unset, .unset, vi (Int32.ofNat P0), vi (Int32.ofNat sg)] [(.int (i0 / (100 : Int32)))])) _
      refine XS.istoreN X1.here hx rfl (hb hby d_jdk_33_12_32) rfl (l' := #[vi i0, vi (Int32.ofNat P0), vr t, vi (i0 / (100 : Int32)), .unset, vi (Int32.ofNat P0), vi (Int32.ofNat sg)]) rfl ?_
      exact k
    generalize hg_j1 : (i0 / (100 : Int32)) = j1
    have hi1 : j1.toInt = -((B1 : Nat) : Int) := by rw [hB1, ← hg_j1]; exact q_lem hi
    refine OEnds.st (S' := T1.setTop (mkF m 39 #[vi i0, vi (Int32.ofNat P0), vr t, vi j1, .unset, vi (Int32.ofNat P0), vi (Int32.ofNat sg)] [(.int ((j1 * (100 : Int32)) - i0))])) (fun _ k => ?_) ?_
    · refine XS.iloadN X1.here hx rfl (hb hby d_jdk_33_12_33) rfl ?_
      refine XS.bipush X1.here hx rfl (hb hby d_jdk_33_12_34) ?_
      refine XS.imul X1.here hx rfl (hb hby d_jdk_33_12_36) rfl ?_
      refine XS.iloadN X1.here hx rfl (hb hby d_jdk_33_12_37) rfl ?_
      show Steps p.tables e below (T1.setTop (mkF m 38 #[vi i0, vi (Int32.ofNat P0), vr t, vi j1, .unset, vi (Int32.ofNat P0), vi (Int32.ofNat sg)] [(.int i0), (.int (j1 * (100 : Int32)))])) _
      refine XS.isub X1.here hx rfl (hb hby d_jdk_33_12_38) rfl ?_
      exact k
    rw [show j1 * (100 : Int32) - i0 = Int32.ofNat r0 from by rw [hr0]; exact r_lem (by omega) hi (hB1 ▸ hi1)]
    refine OEnds.st (S' := T1.setTop (mkF m 44 #[vi j1, vi (Int32.ofNat P0), vr t, vi j1, vi (Int32.ofNat r0), vi (Int32.ofNat P0), vi (Int32.ofNat sg)] [(.ref t)])) (fun _ k => ?_) ?_
    · refine XS.istore X1.here hx rfl (hb hby d_jdk_33_12_39) rfl (l' := #[vi i0, vi (Int32.ofNat P0), vr t, vi j1, vi (Int32.ofNat r0), vi (Int32.ofNat P0), vi (Int32.ofNat sg)]) rfl ?_
      refine XS.iloadN X1.here hx rfl (hb hby d_jdk_33_12_41) rfl ?_
      refine XS.istoreN X1.here hx rfl (hb hby d_jdk_33_12_42) rfl (l' := #[vi j1, vi (Int32.ofNat P0), vr t, vi j1, vi (Int32.ofNat r0), vi (Int32.ofNat P0), vi (Int32.ofNat sg)]) rfl ?_
      refine XS.aloadN X1.here hx rfl (hb hby d_jdk_33_12_43) rfl rfl ?_
      exact k
    refine OEnds.st (S' := T1.setTop (mkF m 47 #[vi j1, vi (Int32.ofNat P0), vr t, vi j1, vi (Int32.ofNat r0), vi ((Int32.ofNat P0) + (-1 : Int32)), vi (Int32.ofNat sg)] [(.ref t)])) (fun _ k => ?_) ?_
    · refine XS.iinc X1.here hx rfl (hb hby d_jdk_33_12_44) rfl (l' := #[vi j1, vi (Int32.ofNat P0), vr t, vi j1, vi (Int32.ofNat r0), vi ((Int32.ofNat P0) + (-1 : Int32)), vi (Int32.ofNat sg)]) rfl ?_
      exact k
    obtain ⟨P1, hP1⟩ : ∃ p, p = P0 - 1 := ⟨_, rfl⟩
    rw [show Int32.ofNat P0 + (-1 : Int32) = Int32.ofNat P1 from hP1 ▸ ofn_dec (by omega)]
    refine OEnds.st (S' := T1.setTop (mkF m 49 #[vi j1, vi (Int32.ofNat P0), vr t, vi j1, vi (Int32.ofNat r0), vi (Int32.ofNat P1), vi (Int32.ofNat sg)] [(.int (Int32.ofNat P1)), (.ref t)])) (fun _ k => ?_) ?_
    · refine XS.iload X1.here hx rfl (hb hby d_jdk_33_12_47) rfl ?_
      exact k
    obtain ⟨T2, X2, e2, st2⟩ := getS2 X1 hx hZ hown (host := "") (Or.inl (wq hw 131 rfl)) Via.refl e1 (S_D1.ext O0) (g := (mkF m 49 #[vi j1, vi (Int32.ofNat P0), vr t, vi j1, vi (Int32.ofNat r0), vi (Int32.ofNat P1), vi (Int32.ofNat sg)] [(.int (Int32.ofNat P1)), (.ref t)])) rfl (hb hby d_jdk_33_12_49)
    refine OEnds.st st2 ?_
    refine OEnds.st (S' := T2.setTop (mkF m 54 #[vi j1, vi (Int32.ofNat P0), vr t, vi j1, vi (Int32.ofNat r0), vi (Int32.ofNat P1), vi (Int32.ofNat sg)] [(.int (Int32.ofNat r0)), (.ref d1), (.int (Int32.ofNat P1)), (.ref t)])) (fun _ k => ?_) ?_
    · refine XS.iload X2.here hx rfl (hb hby d_jdk_33_12_52) rfl ?_
      exact k
    obtain ⟨cl_d1_3, Ar_d1_3, q_d1_3, S_d1_3, N_d1_3, H_d1_3, G_d1_3⟩ := id V_d1
    refine OEnds.st (S' := T2.setTop (mkF m 55 #[vi j1, vi (Int32.ofNat P0), vr t, vi j1, vi (Int32.ofNat r0), vi (Int32.ofNat P1), vi (Int32.ofNat sg)] [(.int (Int32.ofNat (48 + r0 % 10))), (.int (Int32.ofNat P1)), (.ref t)])) (X2.baloadBytes hx (j := (Int32.ofNat r0)) (v := (.int (Int32.ofNat (48 + r0 % 10)))) (by rw [e2]; exact Ar_d1_3.1) (State.isArrayOf_alike hZ.alike Ar_d1_3.2.1) Ar_d1_3.2.2 (inb_of S_d1_3 (dig_in (m := r0) (by omega))) (H_d1_3.at (inb_of S_d1_3 (dig_in (m := r0) (by omega))) (digO_at (m := r0) (by omega))) (g := (mkF m 54 #[vi j1, vi (Int32.ofNat P0), vr t, vi j1, vi (Int32.ofNat r0), vi (Int32.ofNat P1), vi (Int32.ofNat sg)] [(.int (Int32.ofNat r0)), (.ref d1), (.int (Int32.ofNat P1)), (.ref t)])) rfl rfl (hb hby d_jdk_33_12_54)) ?_
    obtain ⟨m1, hm1⟩ : ∃ m, m = 48 + r0 % 10 := ⟨_, rfl⟩
    rw [show Int32.ofNat (48 + r0 % 10) = Int32.ofNat m1 from congrArg _ hm1.symm]
    have q1 : P1 < cN := by omega
    obtain ⟨cl_t_4, Ar_t_4, q_t_4, S_t_4, N_t_4, H_t_4, G_t_4⟩ := V_t
    obtain ⟨T4, h4, X4, e4, W4, st4⟩ := stB X2 hx hZ e2 Ar_t_4 (j := (Int32.ofNat P1)) (inb_of S_t_4 (ix_in q1 hcN)) (g := (mkF m 55 #[vi j1, vi (Int32.ofNat P0), vr t, vi j1, vi (Int32.ofNat r0), vi (Int32.ofNat P1), vi (Int32.ofNat sg)] [(.int (Int32.ofNat m1)), (.int (Int32.ofNat P1)), (.ref t)])) rfl rfl (hb hby d_jdk_33_12_55)
    have V_t_4 : Arv Z h4 t k .byte (Int32.ofNat cN) (List.set vs P1 (.int (nar .byte (Int32.ofNat m1)))) (.int 0) := Arv.set Ar_t_4 q_t_4 S_t_4 N_t_4 H_t_4 G_t_4 (fits_nar_byte _) W4 P1 (ofn_clamp (by omega)) (by rw [hvs]; exact q1)
    refine OEnds.st st4 ?_
    replace V_d1 := V_d1.other W4 ne_d1_t
    replace V_d2 := V_d2.other W4 ne_d2_t
    replace O0 : Ext Z.heap h4 := ext_wr O0 W4 ge_t
    replace N1 := Fr.snoc X4 N1 ge_t
    replace K0 : Keep h0 h4 [t] := K0.wr W4 (Or.inl (List.mem_of_getElem? (i := 0) rfl))
    obtain ⟨vs1, V_vs1, hl1, R1, T1'⟩ : ∃ l, Arv Z h4 t k .byte (Int32.ofNat cN) l (.int 0) ∧ l.length = cN ∧ l.drop P1 = [(.int (Int32.ofNat m1))] ++ vs.drop P0 ∧ l.take n = vs.take n := put_b V_t_4 (by omega) hvs q1 (by omega) R0 T0' (by omega)
    refine OEnds.st (S' := T4.setTop (mkF m 57 #[vi j1, vi (Int32.ofNat P0), vr t, vi j1, vi (Int32.ofNat r0), vi (Int32.ofNat P1), vi (Int32.ofNat sg)] [(.ref t)])) (fun _ k => ?_) ?_
    · refine XS.aloadN X4.here hx rfl (hb hby d_jdk_33_12_56) rfl rfl ?_
      exact k
    refine OEnds.st (S' := T4.setTop (mkF m 60 #[vi j1, vi (Int32.ofNat P0), vr t, vi j1, vi (Int32.ofNat r0), vi ((Int32.ofNat P1) + (-1 : Int32)), vi (Int32.ofNat sg)] [(.ref t)])) (fun _ k => ?_) ?_
    · refine XS.iinc X4.here hx rfl (hb hby d_jdk_33_12_57) rfl (l' := #[vi j1, vi (Int32.ofNat P0), vr t, vi j1, vi (Int32.ofNat r0), vi ((Int32.ofNat P1) + (-1 : Int32)), vi (Int32.ofNat sg)]) rfl ?_
      exact k
    obtain ⟨P2, hP2⟩ : ∃ p, p = P1 - 1 := ⟨_, rfl⟩
    rw [show Int32.ofNat P1 + (-1 : Int32) = Int32.ofNat P2 from hP2 ▸ ofn_dec (by omega)]
    refine OEnds.st (S' := T4.setTop (mkF m 62 #[vi j1, vi (Int32.ofNat P0), vr t, vi j1, vi (Int32.ofNat r0), vi (Int32.ofNat P2), vi (Int32.ofNat sg)] [(.int (Int32.ofNat P2)), (.ref t)])) (fun _ k => ?_) ?_
    · refine XS.iload X4.here hx rfl (hb hby d_jdk_33_12_60) rfl ?_
      exact k
    obtain ⟨T5, X5, e5, st5⟩ := getS2 X4 hx hZ hown (host := "") (Or.inl (wq hw 247 rfl)) Via.refl e4 (S_D2.ext O0) (g := (mkF m 62 #[vi j1, vi (Int32.ofNat P0), vr t, vi j1, vi (Int32.ofNat r0), vi (Int32.ofNat P2), vi (Int32.ofNat sg)] [(.int (Int32.ofNat P2)), (.ref t)])) rfl (hb hby d_jdk_33_12_62)
    refine OEnds.st st5 ?_
    refine OEnds.st (S' := T5.setTop (mkF m 67 #[vi j1, vi (Int32.ofNat P0), vr t, vi j1, vi (Int32.ofNat r0), vi (Int32.ofNat P2), vi (Int32.ofNat sg)] [(.int (Int32.ofNat r0)), (.ref d2), (.int (Int32.ofNat P2)), (.ref t)])) (fun _ k => ?_) ?_
    · refine XS.iload X5.here hx rfl (hb hby d_jdk_33_12_65) rfl ?_
      exact k
    obtain ⟨cl_d2_6, Ar_d2_6, q_d2_6, S_d2_6, N_d2_6, H_d2_6, G_d2_6⟩ := id V_d2
    refine OEnds.st (S' := T5.setTop (mkF m 68 #[vi j1, vi (Int32.ofNat P0), vr t, vi j1, vi (Int32.ofNat r0), vi (Int32.ofNat P2), vi (Int32.ofNat sg)] [(.int (Int32.ofNat (48 + r0 / 10))), (.int (Int32.ofNat P2)), (.ref t)])) (X5.baloadBytes hx (j := (Int32.ofNat r0)) (v := (.int (Int32.ofNat (48 + r0 / 10)))) (by rw [e5]; exact Ar_d2_6.1) (State.isArrayOf_alike hZ.alike Ar_d2_6.2.1) Ar_d2_6.2.2 (inb_of S_d2_6 (dig_in (m := r0) (by omega))) (H_d2_6.at (inb_of S_d2_6 (dig_in (m := r0) (by omega))) (digT_at (m := r0) (by omega))) (g := (mkF m 67 #[vi j1, vi (Int32.ofNat P0), vr t, vi j1, vi (Int32.ofNat r0), vi (Int32.ofNat P2), vi (Int32.ofNat sg)] [(.int (Int32.ofNat r0)), (.ref d2), (.int (Int32.ofNat P2)), (.ref t)])) rfl rfl (hb hby d_jdk_33_12_67)) ?_
    obtain ⟨m2, hm2⟩ : ∃ m, m = 48 + r0 / 10 := ⟨_, rfl⟩
    rw [show Int32.ofNat (48 + r0 / 10) = Int32.ofNat m2 from congrArg _ hm2.symm]
    have q2 : P2 < cN := by omega
    obtain ⟨cl_t_7, Ar_t_7, q_t_7, S_t_7, N_t_7, H_t_7, G_t_7⟩ := V_vs1
    obtain ⟨T7, h7, X7, e7, W7, st7⟩ := stB X5 hx hZ e5 Ar_t_7 (j := (Int32.ofNat P2)) (inb_of S_t_7 (ix_in q2 hcN)) (g := (mkF m 68 #[vi j1, vi (Int32.ofNat P0), vr t, vi j1, vi (Int32.ofNat r0), vi (Int32.ofNat P2), vi (Int32.ofNat sg)] [(.int (Int32.ofNat m2)), (.int (Int32.ofNat P2)), (.ref t)])) rfl rfl (hb hby d_jdk_33_12_68)
    have V_t_7 : Arv Z h7 t k .byte (Int32.ofNat cN) (List.set vs1 P2 (.int (nar .byte (Int32.ofNat m2)))) (.int 0) := Arv.set Ar_t_7 q_t_7 S_t_7 N_t_7 H_t_7 G_t_7 (fits_nar_byte _) W7 P2 (ofn_clamp (by omega)) (by rw [hl1]; exact q2)
    refine OEnds.st st7 ?_
    replace V_d1 := V_d1.other W7 ne_d1_t
    replace V_d2 := V_d2.other W7 ne_d2_t
    replace O0 : Ext Z.heap h7 := ext_wr O0 W7 ge_t
    replace N1 := Fr.snoc X7 N1 ge_t
    replace K0 : Keep h0 h7 [t] := K0.wr W7 (Or.inl (List.mem_of_getElem? (i := 0) rfl))
    obtain ⟨vs2, V_vs2, hl2, R2, T2'⟩ : ∃ l, Arv Z h7 t k .byte (Int32.ofNat cN) l (.int 0) ∧ l.length = cN ∧ l.drop P2 = [(.int (Int32.ofNat m2)), (.int (Int32.ofNat m1))] ++ vs.drop P0 ∧ l.take n = vs.take n := put_b V_t_7 (by omega) hl1 q2 (by omega) R1 T1' (by omega)
    refine OEnds.st (S' := T7.setTop (mkF m 22 #[vi j1, vi (Int32.ofNat P0), vr t, vi j1, vi (Int32.ofNat r0), vi (Int32.ofNat P2), vi (Int32.ofNat sg)] [])) (fun _ k => ?_) ?_
    · refine XS.goto X7.here hx rfl (pc0 := 69) (pc' := 22) rfl (hb hby d_jdk_33_12_69) (by decide) (by decide) ?_
      exact k
    refine OEnds.st (S' := T7.setTop (mkF m 25 #[vi j1, vi (Int32.ofNat P0), vr t, vi j1, vi (Int32.ofNat r0), vi (Int32.ofNat P2), vi (Int32.ofNat sg)] [(.int (-100)), (.int j1)])) (fun _ k => ?_) ?_
    · refine XS.iloadN X7.here hx rfl (hb hby d_jdk_33_12_22) rfl ?_
      refine XS.bipush X7.here hx rfl (hb hby d_jdk_33_12_23) ?_
      exact k
    rcases Classical.em ((-100 : Int32) < j1) with g1 | g1
    · have b1 : B1 < 100 := (cmp_lem (P := 100) hi1 rfl).mp g1
      refine OEnds.st (S' := T7.setTop (mkF m 72 #[vi j1, vi (Int32.ofNat P0), vr t, vi j1, vi (Int32.ofNat r0), vi (Int32.ofNat P2), vi (Int32.ofNat sg)] [])) (fun _ k => ?_) ?_
      · refine XS.icmpYes X7.here hx rfl (pc0 := 25) (pc' := 72) rfl (hb hby d_jdk_33_12_25) rfl (tlt g1).2.2.1 (by decide) (by decide) ?_
        exact k
      refine OEnds.st (S' := T7.setTop (mkF m 73 #[vi j1, vi (Int32.ofNat P0), vr t, vi j1, vi (Int32.ofNat r0), vi (Int32.ofNat P2), vi (Int32.ofNat sg)] [(.ref t)])) (fun _ k => ?_) ?_
      · refine XS.aloadN X7.here hx rfl (hb hby d_jdk_33_12_72) rfl rfl ?_
        exact k
      refine OEnds.st (S' := T7.setTop (mkF m 76 #[vi j1, vi (Int32.ofNat P0), vr t, vi j1, vi (Int32.ofNat r0), vi ((Int32.ofNat P2) + (-1 : Int32)), vi (Int32.ofNat sg)] [(.ref t)])) (fun _ k => ?_) ?_
      · refine XS.iinc X7.here hx rfl (hb hby d_jdk_33_12_73) rfl (l' := #[vi j1, vi (Int32.ofNat P0), vr t, vi j1, vi (Int32.ofNat r0), vi ((Int32.ofNat P2) + (-1 : Int32)), vi (Int32.ofNat sg)]) rfl ?_
        exact k
      obtain ⟨P3, hP3⟩ : ∃ p, p = P2 - 1 := ⟨_, rfl⟩
      rw [show Int32.ofNat P2 + (-1 : Int32) = Int32.ofNat P3 from hP3 ▸ ofn_dec (by omega)]
      refine OEnds.st (S' := T7.setTop (mkF m 78 #[vi j1, vi (Int32.ofNat P0), vr t, vi j1, vi (Int32.ofNat r0), vi (Int32.ofNat P3), vi (Int32.ofNat sg)] [(.int (Int32.ofNat P3)), (.ref t)])) (fun _ k => ?_) ?_
      · refine XS.iload X7.here hx rfl (hb hby d_jdk_33_12_76) rfl ?_
        exact k
      obtain ⟨T8, X8, e8, st8⟩ := getS2 X7 hx hZ hown (host := "") (Or.inl (wq hw 131 rfl)) Via.refl e7 (S_D1.ext O0) (g := (mkF m 78 #[vi j1, vi (Int32.ofNat P0), vr t, vi j1, vi (Int32.ofNat r0), vi (Int32.ofNat P3), vi (Int32.ofNat sg)] [(.int (Int32.ofNat P3)), (.ref t)])) rfl (hb hby d_jdk_33_12_78)
      refine OEnds.st st8 ?_
      refine OEnds.st (S' := T8.setTop (mkF m 83 #[vi j1, vi (Int32.ofNat P0), vr t, vi j1, vi (Int32.ofNat r0), vi (Int32.ofNat P3), vi (Int32.ofNat sg)] [(.int (-j1)), (.ref d1), (.int (Int32.ofNat P3)), (.ref t)])) (fun _ k => ?_) ?_
      · refine XS.iloadN X8.here hx rfl (hb hby d_jdk_33_12_81) rfl ?_
        refine XS.ineg X8.here hx rfl (hb hby d_jdk_33_12_82) rfl ?_
        exact k
      rw [neg_lem (B := B1) (by omega) hi1]
      obtain ⟨cl_d1_9, Ar_d1_9, q_d1_9, S_d1_9, N_d1_9, H_d1_9, G_d1_9⟩ := id V_d1
      refine OEnds.st (S' := T8.setTop (mkF m 84 #[vi j1, vi (Int32.ofNat P0), vr t, vi j1, vi (Int32.ofNat r0), vi (Int32.ofNat P3), vi (Int32.ofNat sg)] [(.int (Int32.ofNat (48 + B1 % 10))), (.int (Int32.ofNat P3)), (.ref t)])) (X8.baloadBytes hx (j := (Int32.ofNat B1)) (v := (.int (Int32.ofNat (48 + B1 % 10)))) (by rw [e8]; exact Ar_d1_9.1) (State.isArrayOf_alike hZ.alike Ar_d1_9.2.1) Ar_d1_9.2.2 (inb_of S_d1_9 (dig_in (m := B1) (by omega))) (H_d1_9.at (inb_of S_d1_9 (dig_in (m := B1) (by omega))) (digO_at (m := B1) (by omega))) (g := (mkF m 83 #[vi j1, vi (Int32.ofNat P0), vr t, vi j1, vi (Int32.ofNat r0), vi (Int32.ofNat P3), vi (Int32.ofNat sg)] [(.int (Int32.ofNat B1)), (.ref d1), (.int (Int32.ofNat P3)), (.ref t)])) rfl rfl (hb hby d_jdk_33_12_83)) ?_
      obtain ⟨m3, hm3⟩ : ∃ m, m = 48 + B1 % 10 := ⟨_, rfl⟩
      rw [show Int32.ofNat (48 + B1 % 10) = Int32.ofNat m3 from congrArg _ hm3.symm]
      have q3 : P3 < cN := by omega
      obtain ⟨cl_t_10, Ar_t_10, q_t_10, S_t_10, N_t_10, H_t_10, G_t_10⟩ := V_vs2
      obtain ⟨T10, h10, X10, e10, W10, st10⟩ := stB X8 hx hZ e8 Ar_t_10 (j := (Int32.ofNat P3)) (inb_of S_t_10 (ix_in q3 hcN)) (g := (mkF m 84 #[vi j1, vi (Int32.ofNat P0), vr t, vi j1, vi (Int32.ofNat r0), vi (Int32.ofNat P3), vi (Int32.ofNat sg)] [(.int (Int32.ofNat m3)), (.int (Int32.ofNat P3)), (.ref t)])) rfl rfl (hb hby d_jdk_33_12_84)
      have V_t_10 : Arv Z h10 t k .byte (Int32.ofNat cN) (List.set vs2 P3 (.int (nar .byte (Int32.ofNat m3)))) (.int 0) := Arv.set Ar_t_10 q_t_10 S_t_10 N_t_10 H_t_10 G_t_10 (fits_nar_byte _) W10 P3 (ofn_clamp (by omega)) (by rw [hl2]; exact q3)
      refine OEnds.st st10 ?_
      replace V_d1 := V_d1.other W10 ne_d1_t
      replace V_d2 := V_d2.other W10 ne_d2_t
      replace O0 : Ext Z.heap h10 := ext_wr O0 W10 ge_t
      replace N1 := Fr.snoc X10 N1 ge_t
      replace K0 : Keep h0 h10 [t] := K0.wr W10 (Or.inl (List.mem_of_getElem? (i := 0) rfl))
      obtain ⟨vs3, V_vs3, hl3, R3, T3'⟩ : ∃ l, Arv Z h10 t k .byte (Int32.ofNat cN) l (.int 0) ∧ l.length = cN ∧ l.drop P3 = [(.int (Int32.ofNat m3)), (.int (Int32.ofNat m2)), (.int (Int32.ofNat m1))] ++ vs.drop P0 ∧ l.take n = vs.take n := put_b V_t_10 (by omega) hl2 q3 (by omega) R2 T2' (by omega)
      refine OEnds.st (S' := T10.setTop (mkF m 88 #[vi j1, vi (Int32.ofNat P0), vr t, vi j1, vi (Int32.ofNat r0), vi (Int32.ofNat P3), vi (Int32.ofNat sg)] [(.int (-9)), (.int j1)])) (fun _ k => ?_) ?_
      · refine XS.iloadN X10.here hx rfl (hb hby d_jdk_33_12_85) rfl ?_
        refine XS.bipush X10.here hx rfl (hb hby d_jdk_33_12_86) ?_
        exact k
      rcases Classical.em (j1 < (-9 : Int32)) with g9 | g9
      · have c1 : 9 < B1 := (cmp2_lem (P := 9) hi1 rfl).mp g9
        have ee1 : 3 < d := dig_ge hDig (by omega)
        refine OEnds.st (S' := T10.setTop (mkF m 91 #[vi j1, vi (Int32.ofNat P0), vr t, vi j1, vi (Int32.ofNat r0), vi (Int32.ofNat P3), vi (Int32.ofNat sg)] [])) (fun _ k => ?_) ?_
        · refine XS.icmpNo X10.here hx rfl (hb hby d_jdk_33_12_88) rfl (tlt g9).2.1 ?_
          exact k
        refine OEnds.st (S' := T10.setTop (mkF m 92 #[vi j1, vi (Int32.ofNat P0), vr t, vi j1, vi (Int32.ofNat r0), vi (Int32.ofNat P3), vi (Int32.ofNat sg)] [(.ref t)])) (fun _ k => ?_) ?_
        · refine XS.aloadN X10.here hx rfl (hb hby d_jdk_33_12_91) rfl rfl ?_
          exact k
        refine OEnds.st (S' := T10.setTop (mkF m 95 #[vi j1, vi (Int32.ofNat P0), vr t, vi j1, vi (Int32.ofNat r0), vi ((Int32.ofNat P3) + (-1 : Int32)), vi (Int32.ofNat sg)] [(.ref t)])) (fun _ k => ?_) ?_
        · refine XS.iinc X10.here hx rfl (hb hby d_jdk_33_12_92) rfl (l' := #[vi j1, vi (Int32.ofNat P0), vr t, vi j1, vi (Int32.ofNat r0), vi ((Int32.ofNat P3) + (-1 : Int32)), vi (Int32.ofNat sg)]) rfl ?_
          exact k
        obtain ⟨P4, hP4⟩ : ∃ p, p = P3 - 1 := ⟨_, rfl⟩
        rw [show Int32.ofNat P3 + (-1 : Int32) = Int32.ofNat P4 from hP4 ▸ ofn_dec (by omega)]
        refine OEnds.st (S' := T10.setTop (mkF m 97 #[vi j1, vi (Int32.ofNat P0), vr t, vi j1, vi (Int32.ofNat r0), vi (Int32.ofNat P4), vi (Int32.ofNat sg)] [(.int (Int32.ofNat P4)), (.ref t)])) (fun _ k => ?_) ?_
        · refine XS.iload X10.here hx rfl (hb hby d_jdk_33_12_95) rfl ?_
          exact k
        obtain ⟨T11, X11, e11, st11⟩ := getS2 X10 hx hZ hown (host := "") (Or.inl (wq hw 247 rfl)) Via.refl e10 (S_D2.ext O0) (g := (mkF m 97 #[vi j1, vi (Int32.ofNat P0), vr t, vi j1, vi (Int32.ofNat r0), vi (Int32.ofNat P4), vi (Int32.ofNat sg)] [(.int (Int32.ofNat P4)), (.ref t)])) rfl (hb hby d_jdk_33_12_97)
        refine OEnds.st st11 ?_
        refine OEnds.st (S' := T11.setTop (mkF m 102 #[vi j1, vi (Int32.ofNat P0), vr t, vi j1, vi (Int32.ofNat r0), vi (Int32.ofNat P4), vi (Int32.ofNat sg)] [(.int (-j1)), (.ref d2), (.int (Int32.ofNat P4)), (.ref t)])) (fun _ k => ?_) ?_
        · refine XS.iloadN X11.here hx rfl (hb hby d_jdk_33_12_100) rfl ?_
          refine XS.ineg X11.here hx rfl (hb hby d_jdk_33_12_101) rfl ?_
          exact k
        rw [neg_lem (B := B1) (by omega) hi1]
        obtain ⟨cl_d2_12, Ar_d2_12, q_d2_12, S_d2_12, N_d2_12, H_d2_12, G_d2_12⟩ := id V_d2
        refine OEnds.st (S' := T11.setTop (mkF m 103 #[vi j1, vi (Int32.ofNat P0), vr t, vi j1, vi (Int32.ofNat r0), vi (Int32.ofNat P4), vi (Int32.ofNat sg)] [(.int (Int32.ofNat (48 + B1 / 10))), (.int (Int32.ofNat P4)), (.ref t)])) (X11.baloadBytes hx (j := (Int32.ofNat B1)) (v := (.int (Int32.ofNat (48 + B1 / 10)))) (by rw [e11]; exact Ar_d2_12.1) (State.isArrayOf_alike hZ.alike Ar_d2_12.2.1) Ar_d2_12.2.2 (inb_of S_d2_12 (dig_in (m := B1) (by omega))) (H_d2_12.at (inb_of S_d2_12 (dig_in (m := B1) (by omega))) (digT_at (m := B1) (by omega))) (g := (mkF m 102 #[vi j1, vi (Int32.ofNat P0), vr t, vi j1, vi (Int32.ofNat r0), vi (Int32.ofNat P4), vi (Int32.ofNat sg)] [(.int (Int32.ofNat B1)), (.ref d2), (.int (Int32.ofNat P4)), (.ref t)])) rfl rfl (hb hby d_jdk_33_12_102)) ?_
        obtain ⟨m4, hm4⟩ : ∃ m, m = 48 + B1 / 10 := ⟨_, rfl⟩
        rw [show Int32.ofNat (48 + B1 / 10) = Int32.ofNat m4 from congrArg _ hm4.symm]
        have q4 : P4 < cN := by omega
        obtain ⟨cl_t_13, Ar_t_13, q_t_13, S_t_13, N_t_13, H_t_13, G_t_13⟩ := V_vs3
        obtain ⟨T13, h13, X13, e13, W13, st13⟩ := stB X11 hx hZ e11 Ar_t_13 (j := (Int32.ofNat P4)) (inb_of S_t_13 (ix_in q4 hcN)) (g := (mkF m 103 #[vi j1, vi (Int32.ofNat P0), vr t, vi j1, vi (Int32.ofNat r0), vi (Int32.ofNat P4), vi (Int32.ofNat sg)] [(.int (Int32.ofNat m4)), (.int (Int32.ofNat P4)), (.ref t)])) rfl rfl (hb hby d_jdk_33_12_103)
        have V_t_13 : Arv Z h13 t k .byte (Int32.ofNat cN) (List.set vs3 P4 (.int (nar .byte (Int32.ofNat m4)))) (.int 0) := Arv.set Ar_t_13 q_t_13 S_t_13 N_t_13 H_t_13 G_t_13 (fits_nar_byte _) W13 P4 (ofn_clamp (by omega)) (by rw [hl3]; exact q4)
        refine OEnds.st st13 ?_
        replace V_d1 := V_d1.other W13 ne_d1_t
        replace V_d2 := V_d2.other W13 ne_d2_t
        replace O0 : Ext Z.heap h13 := ext_wr O0 W13 ge_t
        replace N1 := Fr.snoc X13 N1 ge_t
        replace K0 : Keep h0 h13 [t] := K0.wr W13 (Or.inl (List.mem_of_getElem? (i := 0) rfl))
        obtain ⟨vs4, V_vs4, hl4, R4, T4'⟩ : ∃ l, Arv Z h13 t k .byte (Int32.ofNat cN) l (.int 0) ∧ l.length = cN ∧ l.drop P4 = [(.int (Int32.ofNat m4)), (.int (Int32.ofNat m3)), (.int (Int32.ofNat m2)), (.int (Int32.ofNat m1))] ++ vs.drop P0 ∧ l.take n = vs.take n := put_b V_t_13 (by omega) hl3 q4 (by omega) R3 T3' (by omega)
        have hA4 : A < 10 ^ 4 := by omega
        have hdd : d = 4 := Nat.le_antisymm (dig_le hDig (by decide) hA4) (by have := dig_ge (k := 3) hDig (by omega); omega)
        have hbq : bys (dgs A d) = [(.int (Int32.ofNat m4)), (.int (Int32.ofNat m3)), (.int (Int32.ofNat m2)), (.int (Int32.ofNat m1))] := by
          rw [hdd, dgs_4 hA4]; simp only [bys, List.map_cons, List.map_nil]
          rw [b8_small (by omega), b8_small (by omega), b8_small (by omega), b8_small (by omega)]
          simp only [hm1, hm2, hm3, hm4, hB0, hB1, hr0]
        refine OEnds.st (S' := T13.setTop (mkF m 106 #[vi j1, vi (Int32.ofNat P0), vr t, vi j1, vi (Int32.ofNat r0), vi (Int32.ofNat P4), vi (Int32.ofNat sg)] [(.int (Int32.ofNat sg))])) (fun _ k => ?_) ?_
        · refine XS.iload X13.here hx rfl (hb hby d_jdk_33_12_104) rfl ?_
          exact k
        rcases Classical.em ((Int32.ofNat sg) = (0 : Int32)) with gs | gs
        · have s0 : sg = 0 := sg_z hsg gs
          refine OEnds.st (S' := T13.setTop (mkF m 120 #[vi j1, vi (Int32.ofNat P0), vr t, vi j1, vi (Int32.ofNat r0), vi (Int32.ofNat P4), vi (Int32.ofNat sg)] [(.int (Int32.ofNat P4))])) (fun _ k => ?_) ?_
          · refine XS.ifYes X13.here hx rfl (pc0 := 106) (pc' := 118) rfl (hb hby d_jdk_33_12_106) rfl ((if0 _ _).trans (teq gs).1) (by decide) (by decide) ?_
            refine XS.iload X13.here hx rfl (hb hby d_jdk_33_12_118) rfl ?_
            exact k
          exact OEnds.ret X13 hx hret hlk rfl (Or.inl ⟨rfl, by simp, _, rfl⟩) (hb hby d_jdk_33_12_120) (by decide) (by decide) (by rw [e13]; exact ⟨_, vs4, rfl, N1, K0, V_vs4, hl4, T4', by rw [by_sg0 s0, hbq, show n = P4 from by omega]; exact R4⟩)
        · have s1 : sg = 1 := sg_o hsg gs
          refine OEnds.st (S' := T13.setTop (mkF m 110 #[vi j1, vi (Int32.ofNat P0), vr t, vi j1, vi (Int32.ofNat r0), vi (Int32.ofNat P4), vi (Int32.ofNat sg)] [(.ref t)])) (fun _ k => ?_) ?_
          · refine XS.ifNo X13.here hx rfl (hb hby d_jdk_33_12_106) rfl ((if0 _ _).trans (feq gs).1) ?_
            refine XS.aloadN X13.here hx rfl (hb hby d_jdk_33_12_109) rfl rfl ?_
            exact k
          refine OEnds.st (S' := T13.setTop (mkF m 113 #[vi j1, vi (Int32.ofNat P0), vr t, vi j1, vi (Int32.ofNat r0), vi ((Int32.ofNat P4) + (-1 : Int32)), vi (Int32.ofNat sg)] [(.ref t)])) (fun _ k => ?_) ?_
          · refine XS.iinc X13.here hx rfl (hb hby d_jdk_33_12_110) rfl (l' := #[vi j1, vi (Int32.ofNat P0), vr t, vi j1, vi (Int32.ofNat r0), vi ((Int32.ofNat P4) + (-1 : Int32)), vi (Int32.ofNat sg)]) rfl ?_
            exact k
          obtain ⟨P5, hP5⟩ : ∃ p, p = P4 - 1 := ⟨_, rfl⟩
          rw [show Int32.ofNat P4 + (-1 : Int32) = Int32.ofNat P5 from hP5 ▸ ofn_dec (by omega)]
          refine OEnds.st (S' := T13.setTop (mkF m 117 #[vi j1, vi (Int32.ofNat P0), vr t, vi j1, vi (Int32.ofNat r0), vi (Int32.ofNat P5), vi (Int32.ofNat sg)] [(.int 45), (.int (Int32.ofNat P5)), (.ref t)])) (fun _ k => ?_) ?_
          · refine XS.iload X13.here hx rfl (hb hby d_jdk_33_12_113) rfl ?_
            refine XS.bipush X13.here hx rfl (hb hby d_jdk_33_12_115) ?_
            exact k
          obtain ⟨m5, hm5⟩ : ∃ m, m = 45 := ⟨_, rfl⟩
          rw [show (45 : Int32) = Int32.ofNat m5 from by rw [hm5]; rfl]
          have q5 : P5 < cN := by omega
          obtain ⟨cl_t_14, Ar_t_14, q_t_14, S_t_14, N_t_14, H_t_14, G_t_14⟩ := V_vs4
          obtain ⟨T14, h14, X14, e14, W14, st14⟩ := stB X13 hx hZ e13 Ar_t_14 (j := (Int32.ofNat P5)) (inb_of S_t_14 (ix_in q5 hcN)) (g := (mkF m 117 #[vi j1, vi (Int32.ofNat P0), vr t, vi j1, vi (Int32.ofNat r0), vi (Int32.ofNat P5), vi (Int32.ofNat sg)] [(.int (Int32.ofNat m5)), (.int (Int32.ofNat P5)), (.ref t)])) rfl rfl (hb hby d_jdk_33_12_117)
          have V_t_14 : Arv Z h14 t k .byte (Int32.ofNat cN) (List.set vs4 P5 (.int (nar .byte (Int32.ofNat m5)))) (.int 0) := Arv.set Ar_t_14 q_t_14 S_t_14 N_t_14 H_t_14 G_t_14 (fits_nar_byte _) W14 P5 (ofn_clamp (by omega)) (by rw [hl4]; exact q5)
          refine OEnds.st st14 ?_
          replace V_d1 := V_d1.other W14 ne_d1_t
          replace V_d2 := V_d2.other W14 ne_d2_t
          replace O0 : Ext Z.heap h14 := ext_wr O0 W14 ge_t
          replace N1 := Fr.snoc X14 N1 ge_t
          replace K0 : Keep h0 h14 [t] := K0.wr W14 (Or.inl (List.mem_of_getElem? (i := 0) rfl))
          obtain ⟨vs5, V_vs5, hl5, R5, T5'⟩ : ∃ l, Arv Z h14 t k .byte (Int32.ofNat cN) l (.int 0) ∧ l.length = cN ∧ l.drop P5 = [(.int (Int32.ofNat m5)), (.int (Int32.ofNat m4)), (.int (Int32.ofNat m3)), (.int (Int32.ofNat m2)), (.int (Int32.ofNat m1))] ++ vs.drop P0 ∧ l.take n = vs.take n := put_b V_t_14 (by omega) hl4 q5 (by omega) R4 T4' (by omega)
          refine OEnds.st (S' := T14.setTop (mkF m 120 #[vi j1, vi (Int32.ofNat P0), vr t, vi j1, vi (Int32.ofNat r0), vi (Int32.ofNat P5), vi (Int32.ofNat sg)] [(.int (Int32.ofNat P5))])) (fun _ k => ?_) ?_
          · refine XS.iload X14.here hx rfl (hb hby d_jdk_33_12_118) rfl ?_
            exact k
          exact OEnds.ret X14 hx hret hlk rfl (Or.inl ⟨rfl, by simp, _, rfl⟩) (hb hby d_jdk_33_12_120) (by decide) (by decide) (by rw [e14]; exact ⟨_, vs5, rfl, N1, K0, V_vs5, hl5, T5', by rw [by_sg1 s1, ← hm5, hbq, show n = P5 from by omega]; exact R5⟩)
      · have c1 : B1 < 10 := Nat.lt_of_not_le (fun q => g9 ((cmp2_lem (P := 9) hi1 rfl).mpr (by omega)))
        have hA3 : A < 10 ^ 3 := by omega
        have hdd : d = 3 := Nat.le_antisymm (dig_le hDig (by decide) hA3) (by have := dig_ge (k := 2) hDig (by omega); omega)
        have hbq : bys (dgs A d) = [(.int (Int32.ofNat m3)), (.int (Int32.ofNat m2)), (.int (Int32.ofNat m1))] := by
          rw [hdd, dgs_3 hA3]; simp only [bys, List.map_cons, List.map_nil]
          rw [b8_small (by omega), b8_small (by omega), b8_small (by omega)]
          simp only [hm1, hm2, hm3, hB0, hB1, hr0]
        refine OEnds.st (S' := T10.setTop (mkF m 106 #[vi j1, vi (Int32.ofNat P0), vr t, vi j1, vi (Int32.ofNat r0), vi (Int32.ofNat P3), vi (Int32.ofNat sg)] [(.int (Int32.ofNat sg))])) (fun _ k => ?_) ?_
        · refine XS.icmpYes X10.here hx rfl (pc0 := 88) (pc' := 104) rfl (hb hby d_jdk_33_12_88) rfl (flt g9).2.1 (by decide) (by decide) ?_
          refine XS.iload X10.here hx rfl (hb hby d_jdk_33_12_104) rfl ?_
          exact k
        rcases Classical.em ((Int32.ofNat sg) = (0 : Int32)) with gs | gs
        · have s0 : sg = 0 := sg_z hsg gs
          refine OEnds.st (S' := T10.setTop (mkF m 120 #[vi j1, vi (Int32.ofNat P0), vr t, vi j1, vi (Int32.ofNat r0), vi (Int32.ofNat P3), vi (Int32.ofNat sg)] [(.int (Int32.ofNat P3))])) (fun _ k => ?_) ?_
          · refine XS.ifYes X10.here hx rfl (pc0 := 106) (pc' := 118) rfl (hb hby d_jdk_33_12_106) rfl ((if0 _ _).trans (teq gs).1) (by decide) (by decide) ?_
            refine XS.iload X10.here hx rfl (hb hby d_jdk_33_12_118) rfl ?_
            exact k
          exact OEnds.ret X10 hx hret hlk rfl (Or.inl ⟨rfl, by simp, _, rfl⟩) (hb hby d_jdk_33_12_120) (by decide) (by decide) (by rw [e10]; exact ⟨_, vs3, rfl, N1, K0, V_vs3, hl3, T3', by rw [by_sg0 s0, hbq, show n = P3 from by omega]; exact R3⟩)
        · have s1 : sg = 1 := sg_o hsg gs
          refine OEnds.st (S' := T10.setTop (mkF m 110 #[vi j1, vi (Int32.ofNat P0), vr t, vi j1, vi (Int32.ofNat r0), vi (Int32.ofNat P3), vi (Int32.ofNat sg)] [(.ref t)])) (fun _ k => ?_) ?_
          · refine XS.ifNo X10.here hx rfl (hb hby d_jdk_33_12_106) rfl ((if0 _ _).trans (feq gs).1) ?_
            refine XS.aloadN X10.here hx rfl (hb hby d_jdk_33_12_109) rfl rfl ?_
            exact k
          refine OEnds.st (S' := T10.setTop (mkF m 113 #[vi j1, vi (Int32.ofNat P0), vr t, vi j1, vi (Int32.ofNat r0), vi ((Int32.ofNat P3) + (-1 : Int32)), vi (Int32.ofNat sg)] [(.ref t)])) (fun _ k => ?_) ?_
          · refine XS.iinc X10.here hx rfl (hb hby d_jdk_33_12_110) rfl (l' := #[vi j1, vi (Int32.ofNat P0), vr t, vi j1, vi (Int32.ofNat r0), vi ((Int32.ofNat P3) + (-1 : Int32)), vi (Int32.ofNat sg)]) rfl ?_
            exact k
          obtain ⟨P4, hP4⟩ : ∃ p, p = P3 - 1 := ⟨_, rfl⟩
          rw [show Int32.ofNat P3 + (-1 : Int32) = Int32.ofNat P4 from hP4 ▸ ofn_dec (by omega)]
          refine OEnds.st (S' := T10.setTop (mkF m 117 #[vi j1, vi (Int32.ofNat P0), vr t, vi j1, vi (Int32.ofNat r0), vi (Int32.ofNat P4), vi (Int32.ofNat sg)] [(.int 45), (.int (Int32.ofNat P4)), (.ref t)])) (fun _ k => ?_) ?_
          · refine XS.iload X10.here hx rfl (hb hby d_jdk_33_12_113) rfl ?_
            refine XS.bipush X10.here hx rfl (hb hby d_jdk_33_12_115) ?_
            exact k
          obtain ⟨m4, hm4⟩ : ∃ m, m = 45 := ⟨_, rfl⟩
          rw [show (45 : Int32) = Int32.ofNat m4 from by rw [hm4]; rfl]
          have q4 : P4 < cN := by omega
          obtain ⟨cl_t_11, Ar_t_11, q_t_11, S_t_11, N_t_11, H_t_11, G_t_11⟩ := V_vs3
          obtain ⟨T11, h11, X11, e11, W11, st11⟩ := stB X10 hx hZ e10 Ar_t_11 (j := (Int32.ofNat P4)) (inb_of S_t_11 (ix_in q4 hcN)) (g := (mkF m 117 #[vi j1, vi (Int32.ofNat P0), vr t, vi j1, vi (Int32.ofNat r0), vi (Int32.ofNat P4), vi (Int32.ofNat sg)] [(.int (Int32.ofNat m4)), (.int (Int32.ofNat P4)), (.ref t)])) rfl rfl (hb hby d_jdk_33_12_117)
          have V_t_11 : Arv Z h11 t k .byte (Int32.ofNat cN) (List.set vs3 P4 (.int (nar .byte (Int32.ofNat m4)))) (.int 0) := Arv.set Ar_t_11 q_t_11 S_t_11 N_t_11 H_t_11 G_t_11 (fits_nar_byte _) W11 P4 (ofn_clamp (by omega)) (by rw [hl3]; exact q4)
          refine OEnds.st st11 ?_
          replace V_d1 := V_d1.other W11 ne_d1_t
          replace V_d2 := V_d2.other W11 ne_d2_t
          replace O0 : Ext Z.heap h11 := ext_wr O0 W11 ge_t
          replace N1 := Fr.snoc X11 N1 ge_t
          replace K0 : Keep h0 h11 [t] := K0.wr W11 (Or.inl (List.mem_of_getElem? (i := 0) rfl))
          obtain ⟨vs4, V_vs4, hl4, R4, T4'⟩ : ∃ l, Arv Z h11 t k .byte (Int32.ofNat cN) l (.int 0) ∧ l.length = cN ∧ l.drop P4 = [(.int (Int32.ofNat m4)), (.int (Int32.ofNat m3)), (.int (Int32.ofNat m2)), (.int (Int32.ofNat m1))] ++ vs.drop P0 ∧ l.take n = vs.take n := put_b V_t_11 (by omega) hl3 q4 (by omega) R3 T3' (by omega)
          refine OEnds.st (S' := T11.setTop (mkF m 120 #[vi j1, vi (Int32.ofNat P0), vr t, vi j1, vi (Int32.ofNat r0), vi (Int32.ofNat P4), vi (Int32.ofNat sg)] [(.int (Int32.ofNat P4))])) (fun _ k => ?_) ?_
          · refine XS.iload X11.here hx rfl (hb hby d_jdk_33_12_118) rfl ?_
            exact k
          exact OEnds.ret X11 hx hret hlk rfl (Or.inl ⟨rfl, by simp, _, rfl⟩) (hb hby d_jdk_33_12_120) (by decide) (by decide) (by rw [e11]; exact ⟨_, vs4, rfl, N1, K0, V_vs4, hl4, T4', by rw [by_sg1 s1, ← hm4, hbq, show n = P4 from by omega]; exact R4⟩)
    · have b1 : ¬ B1 < 100 := fun q => g1 ((cmp_lem (P := 100) hi1 rfl).mpr q)
      have dd1 : 4 < d := dig_ge hDig (by omega)
      obtain ⟨B2, hB2⟩ : ∃ b, b = B1 / 100 := ⟨_, rfl⟩
      obtain ⟨r1, hr1⟩ : ∃ b, b = B1 % 100 := ⟨_, rfl⟩
      refine OEnds.st (S' := T7.setTop (mkF m 33 #[vi j1, vi (Int32.ofNat P0), vr t, vi (j1 / (100 : Int32)), vi (Int32.ofNat r0), vi (Int32.ofNat P2), vi (Int32.ofNat sg)] [])) (fun _ k => ?_) ?_
      · refine XS.icmpNo X7.here hx rfl (hb hby d_jdk_33_12_25) rfl (flt g1).2.2.1 ?_
        refine XS.iloadN X7.here hx rfl (hb hby d_jdk_33_12_28) rfl ?_
        refine XS.bipush X7.here hx rfl (hb hby d_jdk_33_12_29) ?_
        refine XS.idiv X7.here hx rfl (hb hby d_jdk_33_12_31) rfl (by decide) ?_
        show Steps p.tables e below (T7.setTop (mkF m 32 #[vi j1, vi (Int32.ofNat P0), vr t, vi j1, vi (Int32.ofNat r0), vi (Int32.ofNat P2), vi (Int32.ofNat sg)] [(.int (j1 / (100 : Int32)))])) _
        refine XS.istoreN X7.here hx rfl (hb hby d_jdk_33_12_32) rfl (l' := #[vi j1, vi (Int32.ofNat P0), vr t, vi (j1 / (100 : Int32)), vi (Int32.ofNat r0), vi (Int32.ofNat P2), vi (Int32.ofNat sg)]) rfl ?_
        exact k
      generalize hg_j2 : (j1 / (100 : Int32)) = j2
      have hi2 : j2.toInt = -((B2 : Nat) : Int) := by rw [hB2, ← hg_j2]; exact q_lem hi1
      refine OEnds.st (S' := T7.setTop (mkF m 39 #[vi j1, vi (Int32.ofNat P0), vr t, vi j2, vi (Int32.ofNat r0), vi (Int32.ofNat P2), vi (Int32.ofNat sg)] [(.int ((j2 * (100 : Int32)) - j1))])) (fun _ k => ?_) ?_
      · refine XS.iloadN X7.here hx rfl (hb hby d_jdk_33_12_33) rfl ?_
        refine XS.bipush X7.here hx rfl (hb hby d_jdk_33_12_34) ?_
        refine XS.imul X7.here hx rfl (hb hby d_jdk_33_12_36) rfl ?_
        refine XS.iloadN X7.here hx rfl (hb hby d_jdk_33_12_37) rfl ?_
        show Steps p.tables e below (T7.setTop (mkF m 38 #[vi j1, vi (Int32.ofNat P0), vr t, vi j2, vi (Int32.ofNat r0), vi (Int32.ofNat P2), vi (Int32.ofNat sg)] [(.int j1), (.int (j2 * (100 : Int32)))])) _
        refine XS.isub X7.here hx rfl (hb hby d_jdk_33_12_38) rfl ?_
        exact k
      rw [show j2 * (100 : Int32) - j1 = Int32.ofNat r1 from by rw [hr1]; exact r_lem (by omega) hi1 (hB2 ▸ hi2)]
      refine OEnds.st (S' := T7.setTop (mkF m 44 #[vi j2, vi (Int32.ofNat P0), vr t, vi j2, vi (Int32.ofNat r1), vi (Int32.ofNat P2), vi (Int32.ofNat sg)] [(.ref t)])) (fun _ k => ?_) ?_
      · refine XS.istore X7.here hx rfl (hb hby d_jdk_33_12_39) rfl (l' := #[vi j1, vi (Int32.ofNat P0), vr t, vi j2, vi (Int32.ofNat r1), vi (Int32.ofNat P2), vi (Int32.ofNat sg)]) rfl ?_
        refine XS.iloadN X7.here hx rfl (hb hby d_jdk_33_12_41) rfl ?_
        refine XS.istoreN X7.here hx rfl (hb hby d_jdk_33_12_42) rfl (l' := #[vi j2, vi (Int32.ofNat P0), vr t, vi j2, vi (Int32.ofNat r1), vi (Int32.ofNat P2), vi (Int32.ofNat sg)]) rfl ?_
        refine XS.aloadN X7.here hx rfl (hb hby d_jdk_33_12_43) rfl rfl ?_
        exact k
      refine OEnds.st (S' := T7.setTop (mkF m 47 #[vi j2, vi (Int32.ofNat P0), vr t, vi j2, vi (Int32.ofNat r1), vi ((Int32.ofNat P2) + (-1 : Int32)), vi (Int32.ofNat sg)] [(.ref t)])) (fun _ k => ?_) ?_
      · refine XS.iinc X7.here hx rfl (hb hby d_jdk_33_12_44) rfl (l' := #[vi j2, vi (Int32.ofNat P0), vr t, vi j2, vi (Int32.ofNat r1), vi ((Int32.ofNat P2) + (-1 : Int32)), vi (Int32.ofNat sg)]) rfl ?_
        exact k
      obtain ⟨P3, hP3⟩ : ∃ p, p = P2 - 1 := ⟨_, rfl⟩
      rw [show Int32.ofNat P2 + (-1 : Int32) = Int32.ofNat P3 from hP3 ▸ ofn_dec (by omega)]
      refine OEnds.st (S' := T7.setTop (mkF m 49 #[vi j2, vi (Int32.ofNat P0), vr t, vi j2, vi (Int32.ofNat r1), vi (Int32.ofNat P3), vi (Int32.ofNat sg)] [(.int (Int32.ofNat P3)), (.ref t)])) (fun _ k => ?_) ?_
      · refine XS.iload X7.here hx rfl (hb hby d_jdk_33_12_47) rfl ?_
        exact k
      obtain ⟨T8, X8, e8, st8⟩ := getS2 X7 hx hZ hown (host := "") (Or.inl (wq hw 131 rfl)) Via.refl e7 (S_D1.ext O0) (g := (mkF m 49 #[vi j2, vi (Int32.ofNat P0), vr t, vi j2, vi (Int32.ofNat r1), vi (Int32.ofNat P3), vi (Int32.ofNat sg)] [(.int (Int32.ofNat P3)), (.ref t)])) rfl (hb hby d_jdk_33_12_49)
      refine OEnds.st st8 ?_
      refine OEnds.st (S' := T8.setTop (mkF m 54 #[vi j2, vi (Int32.ofNat P0), vr t, vi j2, vi (Int32.ofNat r1), vi (Int32.ofNat P3), vi (Int32.ofNat sg)] [(.int (Int32.ofNat r1)), (.ref d1), (.int (Int32.ofNat P3)), (.ref t)])) (fun _ k => ?_) ?_
      · refine XS.iload X8.here hx rfl (hb hby d_jdk_33_12_52) rfl ?_
        exact k
      obtain ⟨cl_d1_9, Ar_d1_9, q_d1_9, S_d1_9, N_d1_9, H_d1_9, G_d1_9⟩ := id V_d1
      refine OEnds.st (S' := T8.setTop (mkF m 55 #[vi j2, vi (Int32.ofNat P0), vr t, vi j2, vi (Int32.ofNat r1), vi (Int32.ofNat P3), vi (Int32.ofNat sg)] [(.int (Int32.ofNat (48 + r1 % 10))), (.int (Int32.ofNat P3)), (.ref t)])) (X8.baloadBytes hx (j := (Int32.ofNat r1)) (v := (.int (Int32.ofNat (48 + r1 % 10)))) (by rw [e8]; exact Ar_d1_9.1) (State.isArrayOf_alike hZ.alike Ar_d1_9.2.1) Ar_d1_9.2.2 (inb_of S_d1_9 (dig_in (m := r1) (by omega))) (H_d1_9.at (inb_of S_d1_9 (dig_in (m := r1) (by omega))) (digO_at (m := r1) (by omega))) (g := (mkF m 54 #[vi j2, vi (Int32.ofNat P0), vr t, vi j2, vi (Int32.ofNat r1), vi (Int32.ofNat P3), vi (Int32.ofNat sg)] [(.int (Int32.ofNat r1)), (.ref d1), (.int (Int32.ofNat P3)), (.ref t)])) rfl rfl (hb hby d_jdk_33_12_54)) ?_
      obtain ⟨m3, hm3⟩ : ∃ m, m = 48 + r1 % 10 := ⟨_, rfl⟩
      rw [show Int32.ofNat (48 + r1 % 10) = Int32.ofNat m3 from congrArg _ hm3.symm]
      have q3 : P3 < cN := by omega
      obtain ⟨cl_t_10, Ar_t_10, q_t_10, S_t_10, N_t_10, H_t_10, G_t_10⟩ := V_vs2
      obtain ⟨T10, h10, X10, e10, W10, st10⟩ := stB X8 hx hZ e8 Ar_t_10 (j := (Int32.ofNat P3)) (inb_of S_t_10 (ix_in q3 hcN)) (g := (mkF m 55 #[vi j2, vi (Int32.ofNat P0), vr t, vi j2, vi (Int32.ofNat r1), vi (Int32.ofNat P3), vi (Int32.ofNat sg)] [(.int (Int32.ofNat m3)), (.int (Int32.ofNat P3)), (.ref t)])) rfl rfl (hb hby d_jdk_33_12_55)
      have V_t_10 : Arv Z h10 t k .byte (Int32.ofNat cN) (List.set vs2 P3 (.int (nar .byte (Int32.ofNat m3)))) (.int 0) := Arv.set Ar_t_10 q_t_10 S_t_10 N_t_10 H_t_10 G_t_10 (fits_nar_byte _) W10 P3 (ofn_clamp (by omega)) (by rw [hl2]; exact q3)
      refine OEnds.st st10 ?_
      replace V_d1 := V_d1.other W10 ne_d1_t
      replace V_d2 := V_d2.other W10 ne_d2_t
      replace O0 : Ext Z.heap h10 := ext_wr O0 W10 ge_t
      replace N1 := Fr.snoc X10 N1 ge_t
      replace K0 : Keep h0 h10 [t] := K0.wr W10 (Or.inl (List.mem_of_getElem? (i := 0) rfl))
      obtain ⟨vs3, V_vs3, hl3, R3, T3'⟩ : ∃ l, Arv Z h10 t k .byte (Int32.ofNat cN) l (.int 0) ∧ l.length = cN ∧ l.drop P3 = [(.int (Int32.ofNat m3)), (.int (Int32.ofNat m2)), (.int (Int32.ofNat m1))] ++ vs.drop P0 ∧ l.take n = vs.take n := put_b V_t_10 (by omega) hl2 q3 (by omega) R2 T2' (by omega)
      refine OEnds.st (S' := T10.setTop (mkF m 57 #[vi j2, vi (Int32.ofNat P0), vr t, vi j2, vi (Int32.ofNat r1), vi (Int32.ofNat P3), vi (Int32.ofNat sg)] [(.ref t)])) (fun _ k => ?_) ?_
      · refine XS.aloadN X10.here hx rfl (hb hby d_jdk_33_12_56) rfl rfl ?_
        exact k
      refine OEnds.st (S' := T10.setTop (mkF m 60 #[vi j2, vi (Int32.ofNat P0), vr t, vi j2, vi (Int32.ofNat r1), vi ((Int32.ofNat P3) + (-1 : Int32)), vi (Int32.ofNat sg)] [(.ref t)])) (fun _ k => ?_) ?_
      · refine XS.iinc X10.here hx rfl (hb hby d_jdk_33_12_57) rfl (l' := #[vi j2, vi (Int32.ofNat P0), vr t, vi j2, vi (Int32.ofNat r1), vi ((Int32.ofNat P3) + (-1 : Int32)), vi (Int32.ofNat sg)]) rfl ?_
        exact k
      obtain ⟨P4, hP4⟩ : ∃ p, p = P3 - 1 := ⟨_, rfl⟩
      rw [show Int32.ofNat P3 + (-1 : Int32) = Int32.ofNat P4 from hP4 ▸ ofn_dec (by omega)]
      refine OEnds.st (S' := T10.setTop (mkF m 62 #[vi j2, vi (Int32.ofNat P0), vr t, vi j2, vi (Int32.ofNat r1), vi (Int32.ofNat P4), vi (Int32.ofNat sg)] [(.int (Int32.ofNat P4)), (.ref t)])) (fun _ k => ?_) ?_
      · refine XS.iload X10.here hx rfl (hb hby d_jdk_33_12_60) rfl ?_
        exact k
      obtain ⟨T11, X11, e11, st11⟩ := getS2 X10 hx hZ hown (host := "") (Or.inl (wq hw 247 rfl)) Via.refl e10 (S_D2.ext O0) (g := (mkF m 62 #[vi j2, vi (Int32.ofNat P0), vr t, vi j2, vi (Int32.ofNat r1), vi (Int32.ofNat P4), vi (Int32.ofNat sg)] [(.int (Int32.ofNat P4)), (.ref t)])) rfl (hb hby d_jdk_33_12_62)
      refine OEnds.st st11 ?_
      refine OEnds.st (S' := T11.setTop (mkF m 67 #[vi j2, vi (Int32.ofNat P0), vr t, vi j2, vi (Int32.ofNat r1), vi (Int32.ofNat P4), vi (Int32.ofNat sg)] [(.int (Int32.ofNat r1)), (.ref d2), (.int (Int32.ofNat P4)), (.ref t)])) (fun _ k => ?_) ?_
      · refine XS.iload X11.here hx rfl (hb hby d_jdk_33_12_65) rfl ?_
        exact k
      obtain ⟨cl_d2_12, Ar_d2_12, q_d2_12, S_d2_12, N_d2_12, H_d2_12, G_d2_12⟩ := id V_d2
      refine OEnds.st (S' := T11.setTop (mkF m 68 #[vi j2, vi (Int32.ofNat P0), vr t, vi j2, vi (Int32.ofNat r1), vi (Int32.ofNat P4), vi (Int32.ofNat sg)] [(.int (Int32.ofNat (48 + r1 / 10))), (.int (Int32.ofNat P4)), (.ref t)])) (X11.baloadBytes hx (j := (Int32.ofNat r1)) (v := (.int (Int32.ofNat (48 + r1 / 10)))) (by rw [e11]; exact Ar_d2_12.1) (State.isArrayOf_alike hZ.alike Ar_d2_12.2.1) Ar_d2_12.2.2 (inb_of S_d2_12 (dig_in (m := r1) (by omega))) (H_d2_12.at (inb_of S_d2_12 (dig_in (m := r1) (by omega))) (digT_at (m := r1) (by omega))) (g := (mkF m 67 #[vi j2, vi (Int32.ofNat P0), vr t, vi j2, vi (Int32.ofNat r1), vi (Int32.ofNat P4), vi (Int32.ofNat sg)] [(.int (Int32.ofNat r1)), (.ref d2), (.int (Int32.ofNat P4)), (.ref t)])) rfl rfl (hb hby d_jdk_33_12_67)) ?_
      obtain ⟨m4, hm4⟩ : ∃ m, m = 48 + r1 / 10 := ⟨_, rfl⟩
      rw [show Int32.ofNat (48 + r1 / 10) = Int32.ofNat m4 from congrArg _ hm4.symm]
      have q4 : P4 < cN := by omega
      obtain ⟨cl_t_13, Ar_t_13, q_t_13, S_t_13, N_t_13, H_t_13, G_t_13⟩ := V_vs3
      obtain ⟨T13, h13, X13, e13, W13, st13⟩ := stB X11 hx hZ e11 Ar_t_13 (j := (Int32.ofNat P4)) (inb_of S_t_13 (ix_in q4 hcN)) (g := (mkF m 68 #[vi j2, vi (Int32.ofNat P0), vr t, vi j2, vi (Int32.ofNat r1), vi (Int32.ofNat P4), vi (Int32.ofNat sg)] [(.int (Int32.ofNat m4)), (.int (Int32.ofNat P4)), (.ref t)])) rfl rfl (hb hby d_jdk_33_12_68)
      have V_t_13 : Arv Z h13 t k .byte (Int32.ofNat cN) (List.set vs3 P4 (.int (nar .byte (Int32.ofNat m4)))) (.int 0) := Arv.set Ar_t_13 q_t_13 S_t_13 N_t_13 H_t_13 G_t_13 (fits_nar_byte _) W13 P4 (ofn_clamp (by omega)) (by rw [hl3]; exact q4)
      refine OEnds.st st13 ?_
      replace V_d1 := V_d1.other W13 ne_d1_t
      replace V_d2 := V_d2.other W13 ne_d2_t
      replace O0 : Ext Z.heap h13 := ext_wr O0 W13 ge_t
      replace N1 := Fr.snoc X13 N1 ge_t
      replace K0 : Keep h0 h13 [t] := K0.wr W13 (Or.inl (List.mem_of_getElem? (i := 0) rfl))
      obtain ⟨vs4, V_vs4, hl4, R4, T4'⟩ : ∃ l, Arv Z h13 t k .byte (Int32.ofNat cN) l (.int 0) ∧ l.length = cN ∧ l.drop P4 = [(.int (Int32.ofNat m4)), (.int (Int32.ofNat m3)), (.int (Int32.ofNat m2)), (.int (Int32.ofNat m1))] ++ vs.drop P0 ∧ l.take n = vs.take n := put_b V_t_13 (by omega) hl3 q4 (by omega) R3 T3' (by omega)
      refine OEnds.st (S' := T13.setTop (mkF m 22 #[vi j2, vi (Int32.ofNat P0), vr t, vi j2, vi (Int32.ofNat r1), vi (Int32.ofNat P4), vi (Int32.ofNat sg)] [])) (fun _ k => ?_) ?_
      · refine XS.goto X13.here hx rfl (pc0 := 69) (pc' := 22) rfl (hb hby d_jdk_33_12_69) (by decide) (by decide) ?_
        exact k
      refine OEnds.st (S' := T13.setTop (mkF m 25 #[vi j2, vi (Int32.ofNat P0), vr t, vi j2, vi (Int32.ofNat r1), vi (Int32.ofNat P4), vi (Int32.ofNat sg)] [(.int (-100)), (.int j2)])) (fun _ k => ?_) ?_
      · refine XS.iloadN X13.here hx rfl (hb hby d_jdk_33_12_22) rfl ?_
        refine XS.bipush X13.here hx rfl (hb hby d_jdk_33_12_23) ?_
        exact k
      rcases Classical.em ((-100 : Int32) < j2) with g2 | g2
      · have b2 : B2 < 100 := (cmp_lem (P := 100) hi2 rfl).mp g2
        refine OEnds.st (S' := T13.setTop (mkF m 72 #[vi j2, vi (Int32.ofNat P0), vr t, vi j2, vi (Int32.ofNat r1), vi (Int32.ofNat P4), vi (Int32.ofNat sg)] [])) (fun _ k => ?_) ?_
        · refine XS.icmpYes X13.here hx rfl (pc0 := 25) (pc' := 72) rfl (hb hby d_jdk_33_12_25) rfl (tlt g2).2.2.1 (by decide) (by decide) ?_
          exact k
        refine OEnds.st (S' := T13.setTop (mkF m 73 #[vi j2, vi (Int32.ofNat P0), vr t, vi j2, vi (Int32.ofNat r1), vi (Int32.ofNat P4), vi (Int32.ofNat sg)] [(.ref t)])) (fun _ k => ?_) ?_
        · refine XS.aloadN X13.here hx rfl (hb hby d_jdk_33_12_72) rfl rfl ?_
          exact k
        refine OEnds.st (S' := T13.setTop (mkF m 76 #[vi j2, vi (Int32.ofNat P0), vr t, vi j2, vi (Int32.ofNat r1), vi ((Int32.ofNat P4) + (-1 : Int32)), vi (Int32.ofNat sg)] [(.ref t)])) (fun _ k => ?_) ?_
        · refine XS.iinc X13.here hx rfl (hb hby d_jdk_33_12_73) rfl (l' := #[vi j2, vi (Int32.ofNat P0), vr t, vi j2, vi (Int32.ofNat r1), vi ((Int32.ofNat P4) + (-1 : Int32)), vi (Int32.ofNat sg)]) rfl ?_
          exact k
        obtain ⟨P5, hP5⟩ : ∃ p, p = P4 - 1 := ⟨_, rfl⟩
        rw [show Int32.ofNat P4 + (-1 : Int32) = Int32.ofNat P5 from hP5 ▸ ofn_dec (by omega)]
        refine OEnds.st (S' := T13.setTop (mkF m 78 #[vi j2, vi (Int32.ofNat P0), vr t, vi j2, vi (Int32.ofNat r1), vi (Int32.ofNat P5), vi (Int32.ofNat sg)] [(.int (Int32.ofNat P5)), (.ref t)])) (fun _ k => ?_) ?_
        · refine XS.iload X13.here hx rfl (hb hby d_jdk_33_12_76) rfl ?_
          exact k
        obtain ⟨T14, X14, e14, st14⟩ := getS2 X13 hx hZ hown (host := "") (Or.inl (wq hw 131 rfl)) Via.refl e13 (S_D1.ext O0) (g := (mkF m 78 #[vi j2, vi (Int32.ofNat P0), vr t, vi j2, vi (Int32.ofNat r1), vi (Int32.ofNat P5), vi (Int32.ofNat sg)] [(.int (Int32.ofNat P5)), (.ref t)])) rfl (hb hby d_jdk_33_12_78)
        refine OEnds.st st14 ?_
        refine OEnds.st (S' := T14.setTop (mkF m 83 #[vi j2, vi (Int32.ofNat P0), vr t, vi j2, vi (Int32.ofNat r1), vi (Int32.ofNat P5), vi (Int32.ofNat sg)] [(.int (-j2)), (.ref d1), (.int (Int32.ofNat P5)), (.ref t)])) (fun _ k => ?_) ?_
        · refine XS.iloadN X14.here hx rfl (hb hby d_jdk_33_12_81) rfl ?_
          refine XS.ineg X14.here hx rfl (hb hby d_jdk_33_12_82) rfl ?_
          exact k
        rw [neg_lem (B := B2) (by omega) hi2]
        obtain ⟨cl_d1_15, Ar_d1_15, q_d1_15, S_d1_15, N_d1_15, H_d1_15, G_d1_15⟩ := id V_d1
        refine OEnds.st (S' := T14.setTop (mkF m 84 #[vi j2, vi (Int32.ofNat P0), vr t, vi j2, vi (Int32.ofNat r1), vi (Int32.ofNat P5), vi (Int32.ofNat sg)] [(.int (Int32.ofNat (48 + B2 % 10))), (.int (Int32.ofNat P5)), (.ref t)])) (X14.baloadBytes hx (j := (Int32.ofNat B2)) (v := (.int (Int32.ofNat (48 + B2 % 10)))) (by rw [e14]; exact Ar_d1_15.1) (State.isArrayOf_alike hZ.alike Ar_d1_15.2.1) Ar_d1_15.2.2 (inb_of S_d1_15 (dig_in (m := B2) (by omega))) (H_d1_15.at (inb_of S_d1_15 (dig_in (m := B2) (by omega))) (digO_at (m := B2) (by omega))) (g := (mkF m 83 #[vi j2, vi (Int32.ofNat P0), vr t, vi j2, vi (Int32.ofNat r1), vi (Int32.ofNat P5), vi (Int32.ofNat sg)] [(.int (Int32.ofNat B2)), (.ref d1), (.int (Int32.ofNat P5)), (.ref t)])) rfl rfl (hb hby d_jdk_33_12_83)) ?_
        obtain ⟨m5, hm5⟩ : ∃ m, m = 48 + B2 % 10 := ⟨_, rfl⟩
        rw [show Int32.ofNat (48 + B2 % 10) = Int32.ofNat m5 from congrArg _ hm5.symm]
        have q5 : P5 < cN := by omega
        obtain ⟨cl_t_16, Ar_t_16, q_t_16, S_t_16, N_t_16, H_t_16, G_t_16⟩ := V_vs4
        obtain ⟨T16, h16, X16, e16, W16, st16⟩ := stB X14 hx hZ e14 Ar_t_16 (j := (Int32.ofNat P5)) (inb_of S_t_16 (ix_in q5 hcN)) (g := (mkF m 84 #[vi j2, vi (Int32.ofNat P0), vr t, vi j2, vi (Int32.ofNat r1), vi (Int32.ofNat P5), vi (Int32.ofNat sg)] [(.int (Int32.ofNat m5)), (.int (Int32.ofNat P5)), (.ref t)])) rfl rfl (hb hby d_jdk_33_12_84)
        have V_t_16 : Arv Z h16 t k .byte (Int32.ofNat cN) (List.set vs4 P5 (.int (nar .byte (Int32.ofNat m5)))) (.int 0) := Arv.set Ar_t_16 q_t_16 S_t_16 N_t_16 H_t_16 G_t_16 (fits_nar_byte _) W16 P5 (ofn_clamp (by omega)) (by rw [hl4]; exact q5)
        refine OEnds.st st16 ?_
        replace V_d1 := V_d1.other W16 ne_d1_t
        replace V_d2 := V_d2.other W16 ne_d2_t
        replace O0 : Ext Z.heap h16 := ext_wr O0 W16 ge_t
        replace N1 := Fr.snoc X16 N1 ge_t
        replace K0 : Keep h0 h16 [t] := K0.wr W16 (Or.inl (List.mem_of_getElem? (i := 0) rfl))
        obtain ⟨vs5, V_vs5, hl5, R5, T5'⟩ : ∃ l, Arv Z h16 t k .byte (Int32.ofNat cN) l (.int 0) ∧ l.length = cN ∧ l.drop P5 = [(.int (Int32.ofNat m5)), (.int (Int32.ofNat m4)), (.int (Int32.ofNat m3)), (.int (Int32.ofNat m2)), (.int (Int32.ofNat m1))] ++ vs.drop P0 ∧ l.take n = vs.take n := put_b V_t_16 (by omega) hl4 q5 (by omega) R4 T4' (by omega)
        refine OEnds.st (S' := T16.setTop (mkF m 88 #[vi j2, vi (Int32.ofNat P0), vr t, vi j2, vi (Int32.ofNat r1), vi (Int32.ofNat P5), vi (Int32.ofNat sg)] [(.int (-9)), (.int j2)])) (fun _ k => ?_) ?_
        · refine XS.iloadN X16.here hx rfl (hb hby d_jdk_33_12_85) rfl ?_
          refine XS.bipush X16.here hx rfl (hb hby d_jdk_33_12_86) ?_
          exact k
        rcases Classical.em (j2 < (-9 : Int32)) with g9 | g9
        · have c2 : 9 < B2 := (cmp2_lem (P := 9) hi2 rfl).mp g9
          have ee2 : 5 < d := dig_ge hDig (by omega)
          refine OEnds.st (S' := T16.setTop (mkF m 91 #[vi j2, vi (Int32.ofNat P0), vr t, vi j2, vi (Int32.ofNat r1), vi (Int32.ofNat P5), vi (Int32.ofNat sg)] [])) (fun _ k => ?_) ?_
          · refine XS.icmpNo X16.here hx rfl (hb hby d_jdk_33_12_88) rfl (tlt g9).2.1 ?_
            exact k
          refine OEnds.st (S' := T16.setTop (mkF m 92 #[vi j2, vi (Int32.ofNat P0), vr t, vi j2, vi (Int32.ofNat r1), vi (Int32.ofNat P5), vi (Int32.ofNat sg)] [(.ref t)])) (fun _ k => ?_) ?_
          · refine XS.aloadN X16.here hx rfl (hb hby d_jdk_33_12_91) rfl rfl ?_
            exact k
          refine OEnds.st (S' := T16.setTop (mkF m 95 #[vi j2, vi (Int32.ofNat P0), vr t, vi j2, vi (Int32.ofNat r1), vi ((Int32.ofNat P5) + (-1 : Int32)), vi (Int32.ofNat sg)] [(.ref t)])) (fun _ k => ?_) ?_
          · refine XS.iinc X16.here hx rfl (hb hby d_jdk_33_12_92) rfl (l' := #[vi j2, vi (Int32.ofNat P0), vr t, vi j2, vi (Int32.ofNat r1), vi ((Int32.ofNat P5) + (-1 : Int32)), vi (Int32.ofNat sg)]) rfl ?_
            exact k
          obtain ⟨P6, hP6⟩ : ∃ p, p = P5 - 1 := ⟨_, rfl⟩
          rw [show Int32.ofNat P5 + (-1 : Int32) = Int32.ofNat P6 from hP6 ▸ ofn_dec (by omega)]
          refine OEnds.st (S' := T16.setTop (mkF m 97 #[vi j2, vi (Int32.ofNat P0), vr t, vi j2, vi (Int32.ofNat r1), vi (Int32.ofNat P6), vi (Int32.ofNat sg)] [(.int (Int32.ofNat P6)), (.ref t)])) (fun _ k => ?_) ?_
          · refine XS.iload X16.here hx rfl (hb hby d_jdk_33_12_95) rfl ?_
            exact k
          obtain ⟨T17, X17, e17, st17⟩ := getS2 X16 hx hZ hown (host := "") (Or.inl (wq hw 247 rfl)) Via.refl e16 (S_D2.ext O0) (g := (mkF m 97 #[vi j2, vi (Int32.ofNat P0), vr t, vi j2, vi (Int32.ofNat r1), vi (Int32.ofNat P6), vi (Int32.ofNat sg)] [(.int (Int32.ofNat P6)), (.ref t)])) rfl (hb hby d_jdk_33_12_97)
          refine OEnds.st st17 ?_
          refine OEnds.st (S' := T17.setTop (mkF m 102 #[vi j2, vi (Int32.ofNat P0), vr t, vi j2, vi (Int32.ofNat r1), vi (Int32.ofNat P6), vi (Int32.ofNat sg)] [(.int (-j2)), (.ref d2), (.int (Int32.ofNat P6)), (.ref t)])) (fun _ k => ?_) ?_
          · refine XS.iloadN X17.here hx rfl (hb hby d_jdk_33_12_100) rfl ?_
            refine XS.ineg X17.here hx rfl (hb hby d_jdk_33_12_101) rfl ?_
            exact k
          rw [neg_lem (B := B2) (by omega) hi2]
          obtain ⟨cl_d2_18, Ar_d2_18, q_d2_18, S_d2_18, N_d2_18, H_d2_18, G_d2_18⟩ := id V_d2
          refine OEnds.st (S' := T17.setTop (mkF m 103 #[vi j2, vi (Int32.ofNat P0), vr t, vi j2, vi (Int32.ofNat r1), vi (Int32.ofNat P6), vi (Int32.ofNat sg)] [(.int (Int32.ofNat (48 + B2 / 10))), (.int (Int32.ofNat P6)), (.ref t)])) (X17.baloadBytes hx (j := (Int32.ofNat B2)) (v := (.int (Int32.ofNat (48 + B2 / 10)))) (by rw [e17]; exact Ar_d2_18.1) (State.isArrayOf_alike hZ.alike Ar_d2_18.2.1) Ar_d2_18.2.2 (inb_of S_d2_18 (dig_in (m := B2) (by omega))) (H_d2_18.at (inb_of S_d2_18 (dig_in (m := B2) (by omega))) (digT_at (m := B2) (by omega))) (g := (mkF m 102 #[vi j2, vi (Int32.ofNat P0), vr t, vi j2, vi (Int32.ofNat r1), vi (Int32.ofNat P6), vi (Int32.ofNat sg)] [(.int (Int32.ofNat B2)), (.ref d2), (.int (Int32.ofNat P6)), (.ref t)])) rfl rfl (hb hby d_jdk_33_12_102)) ?_
          obtain ⟨m6, hm6⟩ : ∃ m, m = 48 + B2 / 10 := ⟨_, rfl⟩
          rw [show Int32.ofNat (48 + B2 / 10) = Int32.ofNat m6 from congrArg _ hm6.symm]
          have q6 : P6 < cN := by omega
          obtain ⟨cl_t_19, Ar_t_19, q_t_19, S_t_19, N_t_19, H_t_19, G_t_19⟩ := V_vs5
          obtain ⟨T19, h19, X19, e19, W19, st19⟩ := stB X17 hx hZ e17 Ar_t_19 (j := (Int32.ofNat P6)) (inb_of S_t_19 (ix_in q6 hcN)) (g := (mkF m 103 #[vi j2, vi (Int32.ofNat P0), vr t, vi j2, vi (Int32.ofNat r1), vi (Int32.ofNat P6), vi (Int32.ofNat sg)] [(.int (Int32.ofNat m6)), (.int (Int32.ofNat P6)), (.ref t)])) rfl rfl (hb hby d_jdk_33_12_103)
          have V_t_19 : Arv Z h19 t k .byte (Int32.ofNat cN) (List.set vs5 P6 (.int (nar .byte (Int32.ofNat m6)))) (.int 0) := Arv.set Ar_t_19 q_t_19 S_t_19 N_t_19 H_t_19 G_t_19 (fits_nar_byte _) W19 P6 (ofn_clamp (by omega)) (by rw [hl5]; exact q6)
          refine OEnds.st st19 ?_
          replace V_d1 := V_d1.other W19 ne_d1_t
          replace V_d2 := V_d2.other W19 ne_d2_t
          replace O0 : Ext Z.heap h19 := ext_wr O0 W19 ge_t
          replace N1 := Fr.snoc X19 N1 ge_t
          replace K0 : Keep h0 h19 [t] := K0.wr W19 (Or.inl (List.mem_of_getElem? (i := 0) rfl))
          obtain ⟨vs6, V_vs6, hl6, R6, T6'⟩ : ∃ l, Arv Z h19 t k .byte (Int32.ofNat cN) l (.int 0) ∧ l.length = cN ∧ l.drop P6 = [(.int (Int32.ofNat m6)), (.int (Int32.ofNat m5)), (.int (Int32.ofNat m4)), (.int (Int32.ofNat m3)), (.int (Int32.ofNat m2)), (.int (Int32.ofNat m1))] ++ vs.drop P0 ∧ l.take n = vs.take n := put_b V_t_19 (by omega) hl5 q6 (by omega) R5 T5' (by omega)
          have hA6 : A < 10 ^ 6 := by omega
          have hdd : d = 6 := Nat.le_antisymm (dig_le hDig (by decide) hA6) (by have := dig_ge (k := 5) hDig (by omega); omega)
          have hbq : bys (dgs A d) = [(.int (Int32.ofNat m6)), (.int (Int32.ofNat m5)), (.int (Int32.ofNat m4)), (.int (Int32.ofNat m3)), (.int (Int32.ofNat m2)), (.int (Int32.ofNat m1))] := by
            rw [hdd, dgs_6 hA6]; simp only [bys, List.map_cons, List.map_nil]
            rw [b8_small (by omega), b8_small (by omega), b8_small (by omega), b8_small (by omega), b8_small (by omega), b8_small (by omega)]
            simp only [hm1, hm2, hm3, hm4, hm5, hm6, hB0, hB1, hB2, hr0, hr1]
          refine OEnds.st (S' := T19.setTop (mkF m 106 #[vi j2, vi (Int32.ofNat P0), vr t, vi j2, vi (Int32.ofNat r1), vi (Int32.ofNat P6), vi (Int32.ofNat sg)] [(.int (Int32.ofNat sg))])) (fun _ k => ?_) ?_
          · refine XS.iload X19.here hx rfl (hb hby d_jdk_33_12_104) rfl ?_
            exact k
          rcases Classical.em ((Int32.ofNat sg) = (0 : Int32)) with gs | gs
          · have s0 : sg = 0 := sg_z hsg gs
            refine OEnds.st (S' := T19.setTop (mkF m 120 #[vi j2, vi (Int32.ofNat P0), vr t, vi j2, vi (Int32.ofNat r1), vi (Int32.ofNat P6), vi (Int32.ofNat sg)] [(.int (Int32.ofNat P6))])) (fun _ k => ?_) ?_
            · refine XS.ifYes X19.here hx rfl (pc0 := 106) (pc' := 118) rfl (hb hby d_jdk_33_12_106) rfl ((if0 _ _).trans (teq gs).1) (by decide) (by decide) ?_
              refine XS.iload X19.here hx rfl (hb hby d_jdk_33_12_118) rfl ?_
              exact k
            exact OEnds.ret X19 hx hret hlk rfl (Or.inl ⟨rfl, by simp, _, rfl⟩) (hb hby d_jdk_33_12_120) (by decide) (by decide) (by rw [e19]; exact ⟨_, vs6, rfl, N1, K0, V_vs6, hl6, T6', by rw [by_sg0 s0, hbq, show n = P6 from by omega]; exact R6⟩)
          · have s1 : sg = 1 := sg_o hsg gs
            refine OEnds.st (S' := T19.setTop (mkF m 110 #[vi j2, vi (Int32.ofNat P0), vr t, vi j2, vi (Int32.ofNat r1), vi (Int32.ofNat P6), vi (Int32.ofNat sg)] [(.ref t)])) (fun _ k => ?_) ?_
            · refine XS.ifNo X19.here hx rfl (hb hby d_jdk_33_12_106) rfl ((if0 _ _).trans (feq gs).1) ?_
              refine XS.aloadN X19.here hx rfl (hb hby d_jdk_33_12_109) rfl rfl ?_
              exact k
            refine OEnds.st (S' := T19.setTop (mkF m 113 #[vi j2, vi (Int32.ofNat P0), vr t, vi j2, vi (Int32.ofNat r1), vi ((Int32.ofNat P6) + (-1 : Int32)), vi (Int32.ofNat sg)] [(.ref t)])) (fun _ k => ?_) ?_
            · refine XS.iinc X19.here hx rfl (hb hby d_jdk_33_12_110) rfl (l' := #[vi j2, vi (Int32.ofNat P0), vr t, vi j2, vi (Int32.ofNat r1), vi ((Int32.ofNat P6) + (-1 : Int32)), vi (Int32.ofNat sg)]) rfl ?_
              exact k
            obtain ⟨P7, hP7⟩ : ∃ p, p = P6 - 1 := ⟨_, rfl⟩
            rw [show Int32.ofNat P6 + (-1 : Int32) = Int32.ofNat P7 from hP7 ▸ ofn_dec (by omega)]
            refine OEnds.st (S' := T19.setTop (mkF m 117 #[vi j2, vi (Int32.ofNat P0), vr t, vi j2, vi (Int32.ofNat r1), vi (Int32.ofNat P7), vi (Int32.ofNat sg)] [(.int 45), (.int (Int32.ofNat P7)), (.ref t)])) (fun _ k => ?_) ?_
            · refine XS.iload X19.here hx rfl (hb hby d_jdk_33_12_113) rfl ?_
              refine XS.bipush X19.here hx rfl (hb hby d_jdk_33_12_115) ?_
              exact k
            obtain ⟨m7, hm7⟩ : ∃ m, m = 45 := ⟨_, rfl⟩
            rw [show (45 : Int32) = Int32.ofNat m7 from by rw [hm7]; rfl]
            have q7 : P7 < cN := by omega
            obtain ⟨cl_t_20, Ar_t_20, q_t_20, S_t_20, N_t_20, H_t_20, G_t_20⟩ := V_vs6
            obtain ⟨T20, h20, X20, e20, W20, st20⟩ := stB X19 hx hZ e19 Ar_t_20 (j := (Int32.ofNat P7)) (inb_of S_t_20 (ix_in q7 hcN)) (g := (mkF m 117 #[vi j2, vi (Int32.ofNat P0), vr t, vi j2, vi (Int32.ofNat r1), vi (Int32.ofNat P7), vi (Int32.ofNat sg)] [(.int (Int32.ofNat m7)), (.int (Int32.ofNat P7)), (.ref t)])) rfl rfl (hb hby d_jdk_33_12_117)
            have V_t_20 : Arv Z h20 t k .byte (Int32.ofNat cN) (List.set vs6 P7 (.int (nar .byte (Int32.ofNat m7)))) (.int 0) := Arv.set Ar_t_20 q_t_20 S_t_20 N_t_20 H_t_20 G_t_20 (fits_nar_byte _) W20 P7 (ofn_clamp (by omega)) (by rw [hl6]; exact q7)
            refine OEnds.st st20 ?_
            replace V_d1 := V_d1.other W20 ne_d1_t
            replace V_d2 := V_d2.other W20 ne_d2_t
            replace O0 : Ext Z.heap h20 := ext_wr O0 W20 ge_t
            replace N1 := Fr.snoc X20 N1 ge_t
            replace K0 : Keep h0 h20 [t] := K0.wr W20 (Or.inl (List.mem_of_getElem? (i := 0) rfl))
            obtain ⟨vs7, V_vs7, hl7, R7, T7'⟩ : ∃ l, Arv Z h20 t k .byte (Int32.ofNat cN) l (.int 0) ∧ l.length = cN ∧ l.drop P7 = [(.int (Int32.ofNat m7)), (.int (Int32.ofNat m6)), (.int (Int32.ofNat m5)), (.int (Int32.ofNat m4)), (.int (Int32.ofNat m3)), (.int (Int32.ofNat m2)), (.int (Int32.ofNat m1))] ++ vs.drop P0 ∧ l.take n = vs.take n := put_b V_t_20 (by omega) hl6 q7 (by omega) R6 T6' (by omega)
            refine OEnds.st (S' := T20.setTop (mkF m 120 #[vi j2, vi (Int32.ofNat P0), vr t, vi j2, vi (Int32.ofNat r1), vi (Int32.ofNat P7), vi (Int32.ofNat sg)] [(.int (Int32.ofNat P7))])) (fun _ k => ?_) ?_
            · refine XS.iload X20.here hx rfl (hb hby d_jdk_33_12_118) rfl ?_
              exact k
            exact OEnds.ret X20 hx hret hlk rfl (Or.inl ⟨rfl, by simp, _, rfl⟩) (hb hby d_jdk_33_12_120) (by decide) (by decide) (by rw [e20]; exact ⟨_, vs7, rfl, N1, K0, V_vs7, hl7, T7', by rw [by_sg1 s1, ← hm7, hbq, show n = P7 from by omega]; exact R7⟩)
        · have c2 : B2 < 10 := Nat.lt_of_not_le (fun q => g9 ((cmp2_lem (P := 9) hi2 rfl).mpr (by omega)))
          have hA5 : A < 10 ^ 5 := by omega
          have hdd : d = 5 := Nat.le_antisymm (dig_le hDig (by decide) hA5) (by have := dig_ge (k := 4) hDig (by omega); omega)
          have hbq : bys (dgs A d) = [(.int (Int32.ofNat m5)), (.int (Int32.ofNat m4)), (.int (Int32.ofNat m3)), (.int (Int32.ofNat m2)), (.int (Int32.ofNat m1))] := by
            rw [hdd, dgs_5 hA5]; simp only [bys, List.map_cons, List.map_nil]
            rw [b8_small (by omega), b8_small (by omega), b8_small (by omega), b8_small (by omega), b8_small (by omega)]
            simp only [hm1, hm2, hm3, hm4, hm5, hB0, hB1, hB2, hr0, hr1]
          refine OEnds.st (S' := T16.setTop (mkF m 106 #[vi j2, vi (Int32.ofNat P0), vr t, vi j2, vi (Int32.ofNat r1), vi (Int32.ofNat P5), vi (Int32.ofNat sg)] [(.int (Int32.ofNat sg))])) (fun _ k => ?_) ?_
          · refine XS.icmpYes X16.here hx rfl (pc0 := 88) (pc' := 104) rfl (hb hby d_jdk_33_12_88) rfl (flt g9).2.1 (by decide) (by decide) ?_
            refine XS.iload X16.here hx rfl (hb hby d_jdk_33_12_104) rfl ?_
            exact k
          rcases Classical.em ((Int32.ofNat sg) = (0 : Int32)) with gs | gs
          · have s0 : sg = 0 := sg_z hsg gs
            refine OEnds.st (S' := T16.setTop (mkF m 120 #[vi j2, vi (Int32.ofNat P0), vr t, vi j2, vi (Int32.ofNat r1), vi (Int32.ofNat P5), vi (Int32.ofNat sg)] [(.int (Int32.ofNat P5))])) (fun _ k => ?_) ?_
            · refine XS.ifYes X16.here hx rfl (pc0 := 106) (pc' := 118) rfl (hb hby d_jdk_33_12_106) rfl ((if0 _ _).trans (teq gs).1) (by decide) (by decide) ?_
              refine XS.iload X16.here hx rfl (hb hby d_jdk_33_12_118) rfl ?_
              exact k
            exact OEnds.ret X16 hx hret hlk rfl (Or.inl ⟨rfl, by simp, _, rfl⟩) (hb hby d_jdk_33_12_120) (by decide) (by decide) (by rw [e16]; exact ⟨_, vs5, rfl, N1, K0, V_vs5, hl5, T5', by rw [by_sg0 s0, hbq, show n = P5 from by omega]; exact R5⟩)
          · have s1 : sg = 1 := sg_o hsg gs
            refine OEnds.st (S' := T16.setTop (mkF m 110 #[vi j2, vi (Int32.ofNat P0), vr t, vi j2, vi (Int32.ofNat r1), vi (Int32.ofNat P5), vi (Int32.ofNat sg)] [(.ref t)])) (fun _ k => ?_) ?_
            · refine XS.ifNo X16.here hx rfl (hb hby d_jdk_33_12_106) rfl ((if0 _ _).trans (feq gs).1) ?_
              refine XS.aloadN X16.here hx rfl (hb hby d_jdk_33_12_109) rfl rfl ?_
              exact k
            refine OEnds.st (S' := T16.setTop (mkF m 113 #[vi j2, vi (Int32.ofNat P0), vr t, vi j2, vi (Int32.ofNat r1), vi ((Int32.ofNat P5) + (-1 : Int32)), vi (Int32.ofNat sg)] [(.ref t)])) (fun _ k => ?_) ?_
            · refine XS.iinc X16.here hx rfl (hb hby d_jdk_33_12_110) rfl (l' := #[vi j2, vi (Int32.ofNat P0), vr t, vi j2, vi (Int32.ofNat r1), vi ((Int32.ofNat P5) + (-1 : Int32)), vi (Int32.ofNat sg)]) rfl ?_
              exact k
            obtain ⟨P6, hP6⟩ : ∃ p, p = P5 - 1 := ⟨_, rfl⟩
            rw [show Int32.ofNat P5 + (-1 : Int32) = Int32.ofNat P6 from hP6 ▸ ofn_dec (by omega)]
            refine OEnds.st (S' := T16.setTop (mkF m 117 #[vi j2, vi (Int32.ofNat P0), vr t, vi j2, vi (Int32.ofNat r1), vi (Int32.ofNat P6), vi (Int32.ofNat sg)] [(.int 45), (.int (Int32.ofNat P6)), (.ref t)])) (fun _ k => ?_) ?_
            · refine XS.iload X16.here hx rfl (hb hby d_jdk_33_12_113) rfl ?_
              refine XS.bipush X16.here hx rfl (hb hby d_jdk_33_12_115) ?_
              exact k
            obtain ⟨m6, hm6⟩ : ∃ m, m = 45 := ⟨_, rfl⟩
            rw [show (45 : Int32) = Int32.ofNat m6 from by rw [hm6]; rfl]
            have q6 : P6 < cN := by omega
            obtain ⟨cl_t_17, Ar_t_17, q_t_17, S_t_17, N_t_17, H_t_17, G_t_17⟩ := V_vs5
            obtain ⟨T17, h17, X17, e17, W17, st17⟩ := stB X16 hx hZ e16 Ar_t_17 (j := (Int32.ofNat P6)) (inb_of S_t_17 (ix_in q6 hcN)) (g := (mkF m 117 #[vi j2, vi (Int32.ofNat P0), vr t, vi j2, vi (Int32.ofNat r1), vi (Int32.ofNat P6), vi (Int32.ofNat sg)] [(.int (Int32.ofNat m6)), (.int (Int32.ofNat P6)), (.ref t)])) rfl rfl (hb hby d_jdk_33_12_117)
            have V_t_17 : Arv Z h17 t k .byte (Int32.ofNat cN) (List.set vs5 P6 (.int (nar .byte (Int32.ofNat m6)))) (.int 0) := Arv.set Ar_t_17 q_t_17 S_t_17 N_t_17 H_t_17 G_t_17 (fits_nar_byte _) W17 P6 (ofn_clamp (by omega)) (by rw [hl5]; exact q6)
            refine OEnds.st st17 ?_
            replace V_d1 := V_d1.other W17 ne_d1_t
            replace V_d2 := V_d2.other W17 ne_d2_t
            replace O0 : Ext Z.heap h17 := ext_wr O0 W17 ge_t
            replace N1 := Fr.snoc X17 N1 ge_t
            replace K0 : Keep h0 h17 [t] := K0.wr W17 (Or.inl (List.mem_of_getElem? (i := 0) rfl))
            obtain ⟨vs6, V_vs6, hl6, R6, T6'⟩ : ∃ l, Arv Z h17 t k .byte (Int32.ofNat cN) l (.int 0) ∧ l.length = cN ∧ l.drop P6 = [(.int (Int32.ofNat m6)), (.int (Int32.ofNat m5)), (.int (Int32.ofNat m4)), (.int (Int32.ofNat m3)), (.int (Int32.ofNat m2)), (.int (Int32.ofNat m1))] ++ vs.drop P0 ∧ l.take n = vs.take n := put_b V_t_17 (by omega) hl5 q6 (by omega) R5 T5' (by omega)
            refine OEnds.st (S' := T17.setTop (mkF m 120 #[vi j2, vi (Int32.ofNat P0), vr t, vi j2, vi (Int32.ofNat r1), vi (Int32.ofNat P6), vi (Int32.ofNat sg)] [(.int (Int32.ofNat P6))])) (fun _ k => ?_) ?_
            · refine XS.iload X17.here hx rfl (hb hby d_jdk_33_12_118) rfl ?_
              exact k
            exact OEnds.ret X17 hx hret hlk rfl (Or.inl ⟨rfl, by simp, _, rfl⟩) (hb hby d_jdk_33_12_120) (by decide) (by decide) (by rw [e17]; exact ⟨_, vs6, rfl, N1, K0, V_vs6, hl6, T6', by rw [by_sg1 s1, ← hm6, hbq, show n = P6 from by omega]; exact R6⟩)
      · have b2 : ¬ B2 < 100 := fun q => g2 ((cmp_lem (P := 100) hi2 rfl).mpr q)
        have dd2 : 6 < d := dig_ge hDig (by omega)
        obtain ⟨B3, hB3⟩ : ∃ b, b = B2 / 100 := ⟨_, rfl⟩
        obtain ⟨r2, hr2⟩ : ∃ b, b = B2 % 100 := ⟨_, rfl⟩
        refine OEnds.st (S' := T13.setTop (mkF m 33 #[vi j2, vi (Int32.ofNat P0), vr t, vi (j2 / (100 : Int32)), vi (Int32.ofNat r1), vi (Int32.ofNat P4), vi (Int32.ofNat sg)] [])) (fun _ k => ?_) ?_
        · refine XS.icmpNo X13.here hx rfl (hb hby d_jdk_33_12_25) rfl (flt g2).2.2.1 ?_
          refine XS.iloadN X13.here hx rfl (hb hby d_jdk_33_12_28) rfl ?_
          refine XS.bipush X13.here hx rfl (hb hby d_jdk_33_12_29) ?_
          refine XS.idiv X13.here hx rfl (hb hby d_jdk_33_12_31) rfl (by decide) ?_
          show Steps p.tables e below (T13.setTop (mkF m 32 #[vi j2, vi (Int32.ofNat P0), vr t, vi j2, vi (Int32.ofNat r1), vi (Int32.ofNat P4), vi (Int32.ofNat sg)] [(.int (j2 / (100 : Int32)))])) _
          refine XS.istoreN X13.here hx rfl (hb hby d_jdk_33_12_32) rfl (l' := #[vi j2, vi (Int32.ofNat P0), vr t, vi (j2 / (100 : Int32)), vi (Int32.ofNat r1), vi (Int32.ofNat P4), vi (Int32.ofNat sg)]) rfl ?_
          exact k
        generalize hg_j3 : (j2 / (100 : Int32)) = j3
        have hi3 : j3.toInt = -((B3 : Nat) : Int) := by rw [hB3, ← hg_j3]; exact q_lem hi2
        refine OEnds.st (S' := T13.setTop (mkF m 39 #[vi j2, vi (Int32.ofNat P0), vr t, vi j3, vi (Int32.ofNat r1), vi (Int32.ofNat P4), vi (Int32.ofNat sg)] [(.int ((j3 * (100 : Int32)) - j2))])) (fun _ k => ?_) ?_
        · refine XS.iloadN X13.here hx rfl (hb hby d_jdk_33_12_33) rfl ?_
          refine XS.bipush X13.here hx rfl (hb hby d_jdk_33_12_34) ?_
          refine XS.imul X13.here hx rfl (hb hby d_jdk_33_12_36) rfl ?_
          refine XS.iloadN X13.here hx rfl (hb hby d_jdk_33_12_37) rfl ?_
          show Steps p.tables e below (T13.setTop (mkF m 38 #[vi j2, vi (Int32.ofNat P0), vr t, vi j3, vi (Int32.ofNat r1), vi (Int32.ofNat P4), vi (Int32.ofNat sg)] [(.int j2), (.int (j3 * (100 : Int32)))])) _
          refine XS.isub X13.here hx rfl (hb hby d_jdk_33_12_38) rfl ?_
          exact k
        rw [show j3 * (100 : Int32) - j2 = Int32.ofNat r2 from by rw [hr2]; exact r_lem (by omega) hi2 (hB3 ▸ hi3)]
        refine OEnds.st (S' := T13.setTop (mkF m 44 #[vi j3, vi (Int32.ofNat P0), vr t, vi j3, vi (Int32.ofNat r2), vi (Int32.ofNat P4), vi (Int32.ofNat sg)] [(.ref t)])) (fun _ k => ?_) ?_
        · refine XS.istore X13.here hx rfl (hb hby d_jdk_33_12_39) rfl (l' := #[vi j2, vi (Int32.ofNat P0), vr t, vi j3, vi (Int32.ofNat r2), vi (Int32.ofNat P4), vi (Int32.ofNat sg)]) rfl ?_
          refine XS.iloadN X13.here hx rfl (hb hby d_jdk_33_12_41) rfl ?_
          refine XS.istoreN X13.here hx rfl (hb hby d_jdk_33_12_42) rfl (l' := #[vi j3, vi (Int32.ofNat P0), vr t, vi j3, vi (Int32.ofNat r2), vi (Int32.ofNat P4), vi (Int32.ofNat sg)]) rfl ?_
          refine XS.aloadN X13.here hx rfl (hb hby d_jdk_33_12_43) rfl rfl ?_
          exact k
        refine OEnds.st (S' := T13.setTop (mkF m 47 #[vi j3, vi (Int32.ofNat P0), vr t, vi j3, vi (Int32.ofNat r2), vi ((Int32.ofNat P4) + (-1 : Int32)), vi (Int32.ofNat sg)] [(.ref t)])) (fun _ k => ?_) ?_
        · refine XS.iinc X13.here hx rfl (hb hby d_jdk_33_12_44) rfl (l' := #[vi j3, vi (Int32.ofNat P0), vr t, vi j3, vi (Int32.ofNat r2), vi ((Int32.ofNat P4) + (-1 : Int32)), vi (Int32.ofNat sg)]) rfl ?_
          exact k
        obtain ⟨P5, hP5⟩ : ∃ p, p = P4 - 1 := ⟨_, rfl⟩
        rw [show Int32.ofNat P4 + (-1 : Int32) = Int32.ofNat P5 from hP5 ▸ ofn_dec (by omega)]
        refine OEnds.st (S' := T13.setTop (mkF m 49 #[vi j3, vi (Int32.ofNat P0), vr t, vi j3, vi (Int32.ofNat r2), vi (Int32.ofNat P5), vi (Int32.ofNat sg)] [(.int (Int32.ofNat P5)), (.ref t)])) (fun _ k => ?_) ?_
        · refine XS.iload X13.here hx rfl (hb hby d_jdk_33_12_47) rfl ?_
          exact k
        obtain ⟨T14, X14, e14, st14⟩ := getS2 X13 hx hZ hown (host := "") (Or.inl (wq hw 131 rfl)) Via.refl e13 (S_D1.ext O0) (g := (mkF m 49 #[vi j3, vi (Int32.ofNat P0), vr t, vi j3, vi (Int32.ofNat r2), vi (Int32.ofNat P5), vi (Int32.ofNat sg)] [(.int (Int32.ofNat P5)), (.ref t)])) rfl (hb hby d_jdk_33_12_49)
        refine OEnds.st st14 ?_
        refine OEnds.st (S' := T14.setTop (mkF m 54 #[vi j3, vi (Int32.ofNat P0), vr t, vi j3, vi (Int32.ofNat r2), vi (Int32.ofNat P5), vi (Int32.ofNat sg)] [(.int (Int32.ofNat r2)), (.ref d1), (.int (Int32.ofNat P5)), (.ref t)])) (fun _ k => ?_) ?_
        · refine XS.iload X14.here hx rfl (hb hby d_jdk_33_12_52) rfl ?_
          exact k
        obtain ⟨cl_d1_15, Ar_d1_15, q_d1_15, S_d1_15, N_d1_15, H_d1_15, G_d1_15⟩ := id V_d1
        refine OEnds.st (S' := T14.setTop (mkF m 55 #[vi j3, vi (Int32.ofNat P0), vr t, vi j3, vi (Int32.ofNat r2), vi (Int32.ofNat P5), vi (Int32.ofNat sg)] [(.int (Int32.ofNat (48 + r2 % 10))), (.int (Int32.ofNat P5)), (.ref t)])) (X14.baloadBytes hx (j := (Int32.ofNat r2)) (v := (.int (Int32.ofNat (48 + r2 % 10)))) (by rw [e14]; exact Ar_d1_15.1) (State.isArrayOf_alike hZ.alike Ar_d1_15.2.1) Ar_d1_15.2.2 (inb_of S_d1_15 (dig_in (m := r2) (by omega))) (H_d1_15.at (inb_of S_d1_15 (dig_in (m := r2) (by omega))) (digO_at (m := r2) (by omega))) (g := (mkF m 54 #[vi j3, vi (Int32.ofNat P0), vr t, vi j3, vi (Int32.ofNat r2), vi (Int32.ofNat P5), vi (Int32.ofNat sg)] [(.int (Int32.ofNat r2)), (.ref d1), (.int (Int32.ofNat P5)), (.ref t)])) rfl rfl (hb hby d_jdk_33_12_54)) ?_
        obtain ⟨m5, hm5⟩ : ∃ m, m = 48 + r2 % 10 := ⟨_, rfl⟩
        rw [show Int32.ofNat (48 + r2 % 10) = Int32.ofNat m5 from congrArg _ hm5.symm]
        have q5 : P5 < cN := by omega
        obtain ⟨cl_t_16, Ar_t_16, q_t_16, S_t_16, N_t_16, H_t_16, G_t_16⟩ := V_vs4
        obtain ⟨T16, h16, X16, e16, W16, st16⟩ := stB X14 hx hZ e14 Ar_t_16 (j := (Int32.ofNat P5)) (inb_of S_t_16 (ix_in q5 hcN)) (g := (mkF m 55 #[vi j3, vi (Int32.ofNat P0), vr t, vi j3, vi (Int32.ofNat r2), vi (Int32.ofNat P5), vi (Int32.ofNat sg)] [(.int (Int32.ofNat m5)), (.int (Int32.ofNat P5)), (.ref t)])) rfl rfl (hb hby d_jdk_33_12_55)
        have V_t_16 : Arv Z h16 t k .byte (Int32.ofNat cN) (List.set vs4 P5 (.int (nar .byte (Int32.ofNat m5)))) (.int 0) := Arv.set Ar_t_16 q_t_16 S_t_16 N_t_16 H_t_16 G_t_16 (fits_nar_byte _) W16 P5 (ofn_clamp (by omega)) (by rw [hl4]; exact q5)
        refine OEnds.st st16 ?_
        replace V_d1 := V_d1.other W16 ne_d1_t
        replace V_d2 := V_d2.other W16 ne_d2_t
        replace O0 : Ext Z.heap h16 := ext_wr O0 W16 ge_t
        replace N1 := Fr.snoc X16 N1 ge_t
        replace K0 : Keep h0 h16 [t] := K0.wr W16 (Or.inl (List.mem_of_getElem? (i := 0) rfl))
        obtain ⟨vs5, V_vs5, hl5, R5, T5'⟩ : ∃ l, Arv Z h16 t k .byte (Int32.ofNat cN) l (.int 0) ∧ l.length = cN ∧ l.drop P5 = [(.int (Int32.ofNat m5)), (.int (Int32.ofNat m4)), (.int (Int32.ofNat m3)), (.int (Int32.ofNat m2)), (.int (Int32.ofNat m1))] ++ vs.drop P0 ∧ l.take n = vs.take n := put_b V_t_16 (by omega) hl4 q5 (by omega) R4 T4' (by omega)
        refine OEnds.st (S' := T16.setTop (mkF m 57 #[vi j3, vi (Int32.ofNat P0), vr t, vi j3, vi (Int32.ofNat r2), vi (Int32.ofNat P5), vi (Int32.ofNat sg)] [(.ref t)])) (fun _ k => ?_) ?_
        · refine XS.aloadN X16.here hx rfl (hb hby d_jdk_33_12_56) rfl rfl ?_
          exact k
        refine OEnds.st (S' := T16.setTop (mkF m 60 #[vi j3, vi (Int32.ofNat P0), vr t, vi j3, vi (Int32.ofNat r2), vi ((Int32.ofNat P5) + (-1 : Int32)), vi (Int32.ofNat sg)] [(.ref t)])) (fun _ k => ?_) ?_
        · refine XS.iinc X16.here hx rfl (hb hby d_jdk_33_12_57) rfl (l' := #[vi j3, vi (Int32.ofNat P0), vr t, vi j3, vi (Int32.ofNat r2), vi ((Int32.ofNat P5) + (-1 : Int32)), vi (Int32.ofNat sg)]) rfl ?_
          exact k
        obtain ⟨P6, hP6⟩ : ∃ p, p = P5 - 1 := ⟨_, rfl⟩
        rw [show Int32.ofNat P5 + (-1 : Int32) = Int32.ofNat P6 from hP6 ▸ ofn_dec (by omega)]
        refine OEnds.st (S' := T16.setTop (mkF m 62 #[vi j3, vi (Int32.ofNat P0), vr t, vi j3, vi (Int32.ofNat r2), vi (Int32.ofNat P6), vi (Int32.ofNat sg)] [(.int (Int32.ofNat P6)), (.ref t)])) (fun _ k => ?_) ?_
        · refine XS.iload X16.here hx rfl (hb hby d_jdk_33_12_60) rfl ?_
          exact k
        obtain ⟨T17, X17, e17, st17⟩ := getS2 X16 hx hZ hown (host := "") (Or.inl (wq hw 247 rfl)) Via.refl e16 (S_D2.ext O0) (g := (mkF m 62 #[vi j3, vi (Int32.ofNat P0), vr t, vi j3, vi (Int32.ofNat r2), vi (Int32.ofNat P6), vi (Int32.ofNat sg)] [(.int (Int32.ofNat P6)), (.ref t)])) rfl (hb hby d_jdk_33_12_62)
        refine OEnds.st st17 ?_
        refine OEnds.st (S' := T17.setTop (mkF m 67 #[vi j3, vi (Int32.ofNat P0), vr t, vi j3, vi (Int32.ofNat r2), vi (Int32.ofNat P6), vi (Int32.ofNat sg)] [(.int (Int32.ofNat r2)), (.ref d2), (.int (Int32.ofNat P6)), (.ref t)])) (fun _ k => ?_) ?_
        · refine XS.iload X17.here hx rfl (hb hby d_jdk_33_12_65) rfl ?_
          exact k
        obtain ⟨cl_d2_18, Ar_d2_18, q_d2_18, S_d2_18, N_d2_18, H_d2_18, G_d2_18⟩ := id V_d2
        refine OEnds.st (S' := T17.setTop (mkF m 68 #[vi j3, vi (Int32.ofNat P0), vr t, vi j3, vi (Int32.ofNat r2), vi (Int32.ofNat P6), vi (Int32.ofNat sg)] [(.int (Int32.ofNat (48 + r2 / 10))), (.int (Int32.ofNat P6)), (.ref t)])) (X17.baloadBytes hx (j := (Int32.ofNat r2)) (v := (.int (Int32.ofNat (48 + r2 / 10)))) (by rw [e17]; exact Ar_d2_18.1) (State.isArrayOf_alike hZ.alike Ar_d2_18.2.1) Ar_d2_18.2.2 (inb_of S_d2_18 (dig_in (m := r2) (by omega))) (H_d2_18.at (inb_of S_d2_18 (dig_in (m := r2) (by omega))) (digT_at (m := r2) (by omega))) (g := (mkF m 67 #[vi j3, vi (Int32.ofNat P0), vr t, vi j3, vi (Int32.ofNat r2), vi (Int32.ofNat P6), vi (Int32.ofNat sg)] [(.int (Int32.ofNat r2)), (.ref d2), (.int (Int32.ofNat P6)), (.ref t)])) rfl rfl (hb hby d_jdk_33_12_67)) ?_
        obtain ⟨m6, hm6⟩ : ∃ m, m = 48 + r2 / 10 := ⟨_, rfl⟩
        rw [show Int32.ofNat (48 + r2 / 10) = Int32.ofNat m6 from congrArg _ hm6.symm]
        have q6 : P6 < cN := by omega
        obtain ⟨cl_t_19, Ar_t_19, q_t_19, S_t_19, N_t_19, H_t_19, G_t_19⟩ := V_vs5
        obtain ⟨T19, h19, X19, e19, W19, st19⟩ := stB X17 hx hZ e17 Ar_t_19 (j := (Int32.ofNat P6)) (inb_of S_t_19 (ix_in q6 hcN)) (g := (mkF m 68 #[vi j3, vi (Int32.ofNat P0), vr t, vi j3, vi (Int32.ofNat r2), vi (Int32.ofNat P6), vi (Int32.ofNat sg)] [(.int (Int32.ofNat m6)), (.int (Int32.ofNat P6)), (.ref t)])) rfl rfl (hb hby d_jdk_33_12_68)
        have V_t_19 : Arv Z h19 t k .byte (Int32.ofNat cN) (List.set vs5 P6 (.int (nar .byte (Int32.ofNat m6)))) (.int 0) := Arv.set Ar_t_19 q_t_19 S_t_19 N_t_19 H_t_19 G_t_19 (fits_nar_byte _) W19 P6 (ofn_clamp (by omega)) (by rw [hl5]; exact q6)
        refine OEnds.st st19 ?_
        replace V_d1 := V_d1.other W19 ne_d1_t
        replace V_d2 := V_d2.other W19 ne_d2_t
        replace O0 : Ext Z.heap h19 := ext_wr O0 W19 ge_t
        replace N1 := Fr.snoc X19 N1 ge_t
        replace K0 : Keep h0 h19 [t] := K0.wr W19 (Or.inl (List.mem_of_getElem? (i := 0) rfl))
        obtain ⟨vs6, V_vs6, hl6, R6, T6'⟩ : ∃ l, Arv Z h19 t k .byte (Int32.ofNat cN) l (.int 0) ∧ l.length = cN ∧ l.drop P6 = [(.int (Int32.ofNat m6)), (.int (Int32.ofNat m5)), (.int (Int32.ofNat m4)), (.int (Int32.ofNat m3)), (.int (Int32.ofNat m2)), (.int (Int32.ofNat m1))] ++ vs.drop P0 ∧ l.take n = vs.take n := put_b V_t_19 (by omega) hl5 q6 (by omega) R5 T5' (by omega)
        refine OEnds.st (S' := T19.setTop (mkF m 22 #[vi j3, vi (Int32.ofNat P0), vr t, vi j3, vi (Int32.ofNat r2), vi (Int32.ofNat P6), vi (Int32.ofNat sg)] [])) (fun _ k => ?_) ?_
        · refine XS.goto X19.here hx rfl (pc0 := 69) (pc' := 22) rfl (hb hby d_jdk_33_12_69) (by decide) (by decide) ?_
          exact k
        refine OEnds.st (S' := T19.setTop (mkF m 25 #[vi j3, vi (Int32.ofNat P0), vr t, vi j3, vi (Int32.ofNat r2), vi (Int32.ofNat P6), vi (Int32.ofNat sg)] [(.int (-100)), (.int j3)])) (fun _ k => ?_) ?_
        · refine XS.iloadN X19.here hx rfl (hb hby d_jdk_33_12_22) rfl ?_
          refine XS.bipush X19.here hx rfl (hb hby d_jdk_33_12_23) ?_
          exact k
        rcases Classical.em ((-100 : Int32) < j3) with g3 | g3
        · have b3 : B3 < 100 := (cmp_lem (P := 100) hi3 rfl).mp g3
          refine OEnds.st (S' := T19.setTop (mkF m 72 #[vi j3, vi (Int32.ofNat P0), vr t, vi j3, vi (Int32.ofNat r2), vi (Int32.ofNat P6), vi (Int32.ofNat sg)] [])) (fun _ k => ?_) ?_
          · refine XS.icmpYes X19.here hx rfl (pc0 := 25) (pc' := 72) rfl (hb hby d_jdk_33_12_25) rfl (tlt g3).2.2.1 (by decide) (by decide) ?_
            exact k
          refine OEnds.st (S' := T19.setTop (mkF m 73 #[vi j3, vi (Int32.ofNat P0), vr t, vi j3, vi (Int32.ofNat r2), vi (Int32.ofNat P6), vi (Int32.ofNat sg)] [(.ref t)])) (fun _ k => ?_) ?_
          · refine XS.aloadN X19.here hx rfl (hb hby d_jdk_33_12_72) rfl rfl ?_
            exact k
          refine OEnds.st (S' := T19.setTop (mkF m 76 #[vi j3, vi (Int32.ofNat P0), vr t, vi j3, vi (Int32.ofNat r2), vi ((Int32.ofNat P6) + (-1 : Int32)), vi (Int32.ofNat sg)] [(.ref t)])) (fun _ k => ?_) ?_
          · refine XS.iinc X19.here hx rfl (hb hby d_jdk_33_12_73) rfl (l' := #[vi j3, vi (Int32.ofNat P0), vr t, vi j3, vi (Int32.ofNat r2), vi ((Int32.ofNat P6) + (-1 : Int32)), vi (Int32.ofNat sg)]) rfl ?_
            exact k
          obtain ⟨P7, hP7⟩ : ∃ p, p = P6 - 1 := ⟨_, rfl⟩
          rw [show Int32.ofNat P6 + (-1 : Int32) = Int32.ofNat P7 from hP7 ▸ ofn_dec (by omega)]
          refine OEnds.st (S' := T19.setTop (mkF m 78 #[vi j3, vi (Int32.ofNat P0), vr t, vi j3, vi (Int32.ofNat r2), vi (Int32.ofNat P7), vi (Int32.ofNat sg)] [(.int (Int32.ofNat P7)), (.ref t)])) (fun _ k => ?_) ?_
          · refine XS.iload X19.here hx rfl (hb hby d_jdk_33_12_76) rfl ?_
            exact k
          obtain ⟨T20, X20, e20, st20⟩ := getS2 X19 hx hZ hown (host := "") (Or.inl (wq hw 131 rfl)) Via.refl e19 (S_D1.ext O0) (g := (mkF m 78 #[vi j3, vi (Int32.ofNat P0), vr t, vi j3, vi (Int32.ofNat r2), vi (Int32.ofNat P7), vi (Int32.ofNat sg)] [(.int (Int32.ofNat P7)), (.ref t)])) rfl (hb hby d_jdk_33_12_78)
          refine OEnds.st st20 ?_
          refine OEnds.st (S' := T20.setTop (mkF m 83 #[vi j3, vi (Int32.ofNat P0), vr t, vi j3, vi (Int32.ofNat r2), vi (Int32.ofNat P7), vi (Int32.ofNat sg)] [(.int (-j3)), (.ref d1), (.int (Int32.ofNat P7)), (.ref t)])) (fun _ k => ?_) ?_
          · refine XS.iloadN X20.here hx rfl (hb hby d_jdk_33_12_81) rfl ?_
            refine XS.ineg X20.here hx rfl (hb hby d_jdk_33_12_82) rfl ?_
            exact k
          rw [neg_lem (B := B3) (by omega) hi3]
          obtain ⟨cl_d1_21, Ar_d1_21, q_d1_21, S_d1_21, N_d1_21, H_d1_21, G_d1_21⟩ := id V_d1
          refine OEnds.st (S' := T20.setTop (mkF m 84 #[vi j3, vi (Int32.ofNat P0), vr t, vi j3, vi (Int32.ofNat r2), vi (Int32.ofNat P7), vi (Int32.ofNat sg)] [(.int (Int32.ofNat (48 + B3 % 10))), (.int (Int32.ofNat P7)), (.ref t)])) (X20.baloadBytes hx (j := (Int32.ofNat B3)) (v := (.int (Int32.ofNat (48 + B3 % 10)))) (by rw [e20]; exact Ar_d1_21.1) (State.isArrayOf_alike hZ.alike Ar_d1_21.2.1) Ar_d1_21.2.2 (inb_of S_d1_21 (dig_in (m := B3) (by omega))) (H_d1_21.at (inb_of S_d1_21 (dig_in (m := B3) (by omega))) (digO_at (m := B3) (by omega))) (g := (mkF m 83 #[vi j3, vi (Int32.ofNat P0), vr t, vi j3, vi (Int32.ofNat r2), vi (Int32.ofNat P7), vi (Int32.ofNat sg)] [(.int (Int32.ofNat B3)), (.ref d1), (.int (Int32.ofNat P7)), (.ref t)])) rfl rfl (hb hby d_jdk_33_12_83)) ?_
          obtain ⟨m7, hm7⟩ : ∃ m, m = 48 + B3 % 10 := ⟨_, rfl⟩
          rw [show Int32.ofNat (48 + B3 % 10) = Int32.ofNat m7 from congrArg _ hm7.symm]
          have q7 : P7 < cN := by omega
          obtain ⟨cl_t_22, Ar_t_22, q_t_22, S_t_22, N_t_22, H_t_22, G_t_22⟩ := V_vs6
          obtain ⟨T22, h22, X22, e22, W22, st22⟩ := stB X20 hx hZ e20 Ar_t_22 (j := (Int32.ofNat P7)) (inb_of S_t_22 (ix_in q7 hcN)) (g := (mkF m 84 #[vi j3, vi (Int32.ofNat P0), vr t, vi j3, vi (Int32.ofNat r2), vi (Int32.ofNat P7), vi (Int32.ofNat sg)] [(.int (Int32.ofNat m7)), (.int (Int32.ofNat P7)), (.ref t)])) rfl rfl (hb hby d_jdk_33_12_84)
          have V_t_22 : Arv Z h22 t k .byte (Int32.ofNat cN) (List.set vs6 P7 (.int (nar .byte (Int32.ofNat m7)))) (.int 0) := Arv.set Ar_t_22 q_t_22 S_t_22 N_t_22 H_t_22 G_t_22 (fits_nar_byte _) W22 P7 (ofn_clamp (by omega)) (by rw [hl6]; exact q7)
          refine OEnds.st st22 ?_
          replace V_d1 := V_d1.other W22 ne_d1_t
          replace V_d2 := V_d2.other W22 ne_d2_t
          replace O0 : Ext Z.heap h22 := ext_wr O0 W22 ge_t
          replace N1 := Fr.snoc X22 N1 ge_t
          replace K0 : Keep h0 h22 [t] := K0.wr W22 (Or.inl (List.mem_of_getElem? (i := 0) rfl))
          obtain ⟨vs7, V_vs7, hl7, R7, T7'⟩ : ∃ l, Arv Z h22 t k .byte (Int32.ofNat cN) l (.int 0) ∧ l.length = cN ∧ l.drop P7 = [(.int (Int32.ofNat m7)), (.int (Int32.ofNat m6)), (.int (Int32.ofNat m5)), (.int (Int32.ofNat m4)), (.int (Int32.ofNat m3)), (.int (Int32.ofNat m2)), (.int (Int32.ofNat m1))] ++ vs.drop P0 ∧ l.take n = vs.take n := put_b V_t_22 (by omega) hl6 q7 (by omega) R6 T6' (by omega)
          refine OEnds.st (S' := T22.setTop (mkF m 88 #[vi j3, vi (Int32.ofNat P0), vr t, vi j3, vi (Int32.ofNat r2), vi (Int32.ofNat P7), vi (Int32.ofNat sg)] [(.int (-9)), (.int j3)])) (fun _ k => ?_) ?_
          · refine XS.iloadN X22.here hx rfl (hb hby d_jdk_33_12_85) rfl ?_
            refine XS.bipush X22.here hx rfl (hb hby d_jdk_33_12_86) ?_
            exact k
          rcases Classical.em (j3 < (-9 : Int32)) with g9 | g9
          · have c3 : 9 < B3 := (cmp2_lem (P := 9) hi3 rfl).mp g9
            have ee3 : 7 < d := dig_ge hDig (by omega)
            refine OEnds.st (S' := T22.setTop (mkF m 91 #[vi j3, vi (Int32.ofNat P0), vr t, vi j3, vi (Int32.ofNat r2), vi (Int32.ofNat P7), vi (Int32.ofNat sg)] [])) (fun _ k => ?_) ?_
            · refine XS.icmpNo X22.here hx rfl (hb hby d_jdk_33_12_88) rfl (tlt g9).2.1 ?_
              exact k
            refine OEnds.st (S' := T22.setTop (mkF m 92 #[vi j3, vi (Int32.ofNat P0), vr t, vi j3, vi (Int32.ofNat r2), vi (Int32.ofNat P7), vi (Int32.ofNat sg)] [(.ref t)])) (fun _ k => ?_) ?_
            · refine XS.aloadN X22.here hx rfl (hb hby d_jdk_33_12_91) rfl rfl ?_
              exact k
            refine OEnds.st (S' := T22.setTop (mkF m 95 #[vi j3, vi (Int32.ofNat P0), vr t, vi j3, vi (Int32.ofNat r2), vi ((Int32.ofNat P7) + (-1 : Int32)), vi (Int32.ofNat sg)] [(.ref t)])) (fun _ k => ?_) ?_
            · refine XS.iinc X22.here hx rfl (hb hby d_jdk_33_12_92) rfl (l' := #[vi j3, vi (Int32.ofNat P0), vr t, vi j3, vi (Int32.ofNat r2), vi ((Int32.ofNat P7) + (-1 : Int32)), vi (Int32.ofNat sg)]) rfl ?_
              exact k
            obtain ⟨P8, hP8⟩ : ∃ p, p = P7 - 1 := ⟨_, rfl⟩
            rw [show Int32.ofNat P7 + (-1 : Int32) = Int32.ofNat P8 from hP8 ▸ ofn_dec (by omega)]
            refine OEnds.st (S' := T22.setTop (mkF m 97 #[vi j3, vi (Int32.ofNat P0), vr t, vi j3, vi (Int32.ofNat r2), vi (Int32.ofNat P8), vi (Int32.ofNat sg)] [(.int (Int32.ofNat P8)), (.ref t)])) (fun _ k => ?_) ?_
            · refine XS.iload X22.here hx rfl (hb hby d_jdk_33_12_95) rfl ?_
              exact k
            obtain ⟨T23, X23, e23, st23⟩ := getS2 X22 hx hZ hown (host := "") (Or.inl (wq hw 247 rfl)) Via.refl e22 (S_D2.ext O0) (g := (mkF m 97 #[vi j3, vi (Int32.ofNat P0), vr t, vi j3, vi (Int32.ofNat r2), vi (Int32.ofNat P8), vi (Int32.ofNat sg)] [(.int (Int32.ofNat P8)), (.ref t)])) rfl (hb hby d_jdk_33_12_97)
            refine OEnds.st st23 ?_
            refine OEnds.st (S' := T23.setTop (mkF m 102 #[vi j3, vi (Int32.ofNat P0), vr t, vi j3, vi (Int32.ofNat r2), vi (Int32.ofNat P8), vi (Int32.ofNat sg)] [(.int (-j3)), (.ref d2), (.int (Int32.ofNat P8)), (.ref t)])) (fun _ k => ?_) ?_
            · refine XS.iloadN X23.here hx rfl (hb hby d_jdk_33_12_100) rfl ?_
              refine XS.ineg X23.here hx rfl (hb hby d_jdk_33_12_101) rfl ?_
              exact k
            rw [neg_lem (B := B3) (by omega) hi3]
            obtain ⟨cl_d2_24, Ar_d2_24, q_d2_24, S_d2_24, N_d2_24, H_d2_24, G_d2_24⟩ := id V_d2
            refine OEnds.st (S' := T23.setTop (mkF m 103 #[vi j3, vi (Int32.ofNat P0), vr t, vi j3, vi (Int32.ofNat r2), vi (Int32.ofNat P8), vi (Int32.ofNat sg)] [(.int (Int32.ofNat (48 + B3 / 10))), (.int (Int32.ofNat P8)), (.ref t)])) (X23.baloadBytes hx (j := (Int32.ofNat B3)) (v := (.int (Int32.ofNat (48 + B3 / 10)))) (by rw [e23]; exact Ar_d2_24.1) (State.isArrayOf_alike hZ.alike Ar_d2_24.2.1) Ar_d2_24.2.2 (inb_of S_d2_24 (dig_in (m := B3) (by omega))) (H_d2_24.at (inb_of S_d2_24 (dig_in (m := B3) (by omega))) (digT_at (m := B3) (by omega))) (g := (mkF m 102 #[vi j3, vi (Int32.ofNat P0), vr t, vi j3, vi (Int32.ofNat r2), vi (Int32.ofNat P8), vi (Int32.ofNat sg)] [(.int (Int32.ofNat B3)), (.ref d2), (.int (Int32.ofNat P8)), (.ref t)])) rfl rfl (hb hby d_jdk_33_12_102)) ?_
            obtain ⟨m8, hm8⟩ : ∃ m, m = 48 + B3 / 10 := ⟨_, rfl⟩
            rw [show Int32.ofNat (48 + B3 / 10) = Int32.ofNat m8 from congrArg _ hm8.symm]
            have q8 : P8 < cN := by omega
            obtain ⟨cl_t_25, Ar_t_25, q_t_25, S_t_25, N_t_25, H_t_25, G_t_25⟩ := V_vs7
            obtain ⟨T25, h25, X25, e25, W25, st25⟩ := stB X23 hx hZ e23 Ar_t_25 (j := (Int32.ofNat P8)) (inb_of S_t_25 (ix_in q8 hcN)) (g := (mkF m 103 #[vi j3, vi (Int32.ofNat P0), vr t, vi j3, vi (Int32.ofNat r2), vi (Int32.ofNat P8), vi (Int32.ofNat sg)] [(.int (Int32.ofNat m8)), (.int (Int32.ofNat P8)), (.ref t)])) rfl rfl (hb hby d_jdk_33_12_103)
            have V_t_25 : Arv Z h25 t k .byte (Int32.ofNat cN) (List.set vs7 P8 (.int (nar .byte (Int32.ofNat m8)))) (.int 0) := Arv.set Ar_t_25 q_t_25 S_t_25 N_t_25 H_t_25 G_t_25 (fits_nar_byte _) W25 P8 (ofn_clamp (by omega)) (by rw [hl7]; exact q8)
            refine OEnds.st st25 ?_
            replace V_d1 := V_d1.other W25 ne_d1_t
            replace V_d2 := V_d2.other W25 ne_d2_t
            replace O0 : Ext Z.heap h25 := ext_wr O0 W25 ge_t
            replace N1 := Fr.snoc X25 N1 ge_t
            replace K0 : Keep h0 h25 [t] := K0.wr W25 (Or.inl (List.mem_of_getElem? (i := 0) rfl))
            obtain ⟨vs8, V_vs8, hl8, R8, T8'⟩ : ∃ l, Arv Z h25 t k .byte (Int32.ofNat cN) l (.int 0) ∧ l.length = cN ∧ l.drop P8 = [(.int (Int32.ofNat m8)), (.int (Int32.ofNat m7)), (.int (Int32.ofNat m6)), (.int (Int32.ofNat m5)), (.int (Int32.ofNat m4)), (.int (Int32.ofNat m3)), (.int (Int32.ofNat m2)), (.int (Int32.ofNat m1))] ++ vs.drop P0 ∧ l.take n = vs.take n := put_b V_t_25 (by omega) hl7 q8 (by omega) R7 T7' (by omega)
            have hA8 : A < 10 ^ 8 := by omega
            have hdd : d = 8 := Nat.le_antisymm (dig_le hDig (by decide) hA8) (by have := dig_ge (k := 7) hDig (by omega); omega)
            have hbq : bys (dgs A d) = [(.int (Int32.ofNat m8)), (.int (Int32.ofNat m7)), (.int (Int32.ofNat m6)), (.int (Int32.ofNat m5)), (.int (Int32.ofNat m4)), (.int (Int32.ofNat m3)), (.int (Int32.ofNat m2)), (.int (Int32.ofNat m1))] := by
              rw [hdd, dgs_8 hA8]; simp only [bys, List.map_cons, List.map_nil]
              rw [b8_small (by omega), b8_small (by omega), b8_small (by omega), b8_small (by omega), b8_small (by omega), b8_small (by omega), b8_small (by omega), b8_small (by omega)]
              simp only [hm1, hm2, hm3, hm4, hm5, hm6, hm7, hm8, hB0, hB1, hB2, hB3, hr0, hr1, hr2]
            refine OEnds.st (S' := T25.setTop (mkF m 106 #[vi j3, vi (Int32.ofNat P0), vr t, vi j3, vi (Int32.ofNat r2), vi (Int32.ofNat P8), vi (Int32.ofNat sg)] [(.int (Int32.ofNat sg))])) (fun _ k => ?_) ?_
            · refine XS.iload X25.here hx rfl (hb hby d_jdk_33_12_104) rfl ?_
              exact k
            rcases Classical.em ((Int32.ofNat sg) = (0 : Int32)) with gs | gs
            · have s0 : sg = 0 := sg_z hsg gs
              refine OEnds.st (S' := T25.setTop (mkF m 120 #[vi j3, vi (Int32.ofNat P0), vr t, vi j3, vi (Int32.ofNat r2), vi (Int32.ofNat P8), vi (Int32.ofNat sg)] [(.int (Int32.ofNat P8))])) (fun _ k => ?_) ?_
              · refine XS.ifYes X25.here hx rfl (pc0 := 106) (pc' := 118) rfl (hb hby d_jdk_33_12_106) rfl ((if0 _ _).trans (teq gs).1) (by decide) (by decide) ?_
                refine XS.iload X25.here hx rfl (hb hby d_jdk_33_12_118) rfl ?_
                exact k
              exact OEnds.ret X25 hx hret hlk rfl (Or.inl ⟨rfl, by simp, _, rfl⟩) (hb hby d_jdk_33_12_120) (by decide) (by decide) (by rw [e25]; exact ⟨_, vs8, rfl, N1, K0, V_vs8, hl8, T8', by rw [by_sg0 s0, hbq, show n = P8 from by omega]; exact R8⟩)
            · have s1 : sg = 1 := sg_o hsg gs
              refine OEnds.st (S' := T25.setTop (mkF m 110 #[vi j3, vi (Int32.ofNat P0), vr t, vi j3, vi (Int32.ofNat r2), vi (Int32.ofNat P8), vi (Int32.ofNat sg)] [(.ref t)])) (fun _ k => ?_) ?_
              · refine XS.ifNo X25.here hx rfl (hb hby d_jdk_33_12_106) rfl ((if0 _ _).trans (feq gs).1) ?_
                refine XS.aloadN X25.here hx rfl (hb hby d_jdk_33_12_109) rfl rfl ?_
                exact k
              refine OEnds.st (S' := T25.setTop (mkF m 113 #[vi j3, vi (Int32.ofNat P0), vr t, vi j3, vi (Int32.ofNat r2), vi ((Int32.ofNat P8) + (-1 : Int32)), vi (Int32.ofNat sg)] [(.ref t)])) (fun _ k => ?_) ?_
              · refine XS.iinc X25.here hx rfl (hb hby d_jdk_33_12_110) rfl (l' := #[vi j3, vi (Int32.ofNat P0), vr t, vi j3, vi (Int32.ofNat r2), vi ((Int32.ofNat P8) + (-1 : Int32)), vi (Int32.ofNat sg)]) rfl ?_
                exact k
              obtain ⟨P9, hP9⟩ : ∃ p, p = P8 - 1 := ⟨_, rfl⟩
              rw [show Int32.ofNat P8 + (-1 : Int32) = Int32.ofNat P9 from hP9 ▸ ofn_dec (by omega)]
              refine OEnds.st (S' := T25.setTop (mkF m 117 #[vi j3, vi (Int32.ofNat P0), vr t, vi j3, vi (Int32.ofNat r2), vi (Int32.ofNat P9), vi (Int32.ofNat sg)] [(.int 45), (.int (Int32.ofNat P9)), (.ref t)])) (fun _ k => ?_) ?_
              · refine XS.iload X25.here hx rfl (hb hby d_jdk_33_12_113) rfl ?_
                refine XS.bipush X25.here hx rfl (hb hby d_jdk_33_12_115) ?_
                exact k
              obtain ⟨m9, hm9⟩ : ∃ m, m = 45 := ⟨_, rfl⟩
              rw [show (45 : Int32) = Int32.ofNat m9 from by rw [hm9]; rfl]
              have q9 : P9 < cN := by omega
              obtain ⟨cl_t_26, Ar_t_26, q_t_26, S_t_26, N_t_26, H_t_26, G_t_26⟩ := V_vs8
              obtain ⟨T26, h26, X26, e26, W26, st26⟩ := stB X25 hx hZ e25 Ar_t_26 (j := (Int32.ofNat P9)) (inb_of S_t_26 (ix_in q9 hcN)) (g := (mkF m 117 #[vi j3, vi (Int32.ofNat P0), vr t, vi j3, vi (Int32.ofNat r2), vi (Int32.ofNat P9), vi (Int32.ofNat sg)] [(.int (Int32.ofNat m9)), (.int (Int32.ofNat P9)), (.ref t)])) rfl rfl (hb hby d_jdk_33_12_117)
              have V_t_26 : Arv Z h26 t k .byte (Int32.ofNat cN) (List.set vs8 P9 (.int (nar .byte (Int32.ofNat m9)))) (.int 0) := Arv.set Ar_t_26 q_t_26 S_t_26 N_t_26 H_t_26 G_t_26 (fits_nar_byte _) W26 P9 (ofn_clamp (by omega)) (by rw [hl8]; exact q9)
              refine OEnds.st st26 ?_
              replace V_d1 := V_d1.other W26 ne_d1_t
              replace V_d2 := V_d2.other W26 ne_d2_t
              replace O0 : Ext Z.heap h26 := ext_wr O0 W26 ge_t
              replace N1 := Fr.snoc X26 N1 ge_t
              replace K0 : Keep h0 h26 [t] := K0.wr W26 (Or.inl (List.mem_of_getElem? (i := 0) rfl))
              obtain ⟨vs9, V_vs9, hl9, R9, T9'⟩ : ∃ l, Arv Z h26 t k .byte (Int32.ofNat cN) l (.int 0) ∧ l.length = cN ∧ l.drop P9 = [(.int (Int32.ofNat m9)), (.int (Int32.ofNat m8)), (.int (Int32.ofNat m7)), (.int (Int32.ofNat m6)), (.int (Int32.ofNat m5)), (.int (Int32.ofNat m4)), (.int (Int32.ofNat m3)), (.int (Int32.ofNat m2)), (.int (Int32.ofNat m1))] ++ vs.drop P0 ∧ l.take n = vs.take n := put_b V_t_26 (by omega) hl8 q9 (by omega) R8 T8' (by omega)
              refine OEnds.st (S' := T26.setTop (mkF m 120 #[vi j3, vi (Int32.ofNat P0), vr t, vi j3, vi (Int32.ofNat r2), vi (Int32.ofNat P9), vi (Int32.ofNat sg)] [(.int (Int32.ofNat P9))])) (fun _ k => ?_) ?_
              · refine XS.iload X26.here hx rfl (hb hby d_jdk_33_12_118) rfl ?_
                exact k
              exact OEnds.ret X26 hx hret hlk rfl (Or.inl ⟨rfl, by simp, _, rfl⟩) (hb hby d_jdk_33_12_120) (by decide) (by decide) (by rw [e26]; exact ⟨_, vs9, rfl, N1, K0, V_vs9, hl9, T9', by rw [by_sg1 s1, ← hm9, hbq, show n = P9 from by omega]; exact R9⟩)
          · have c3 : B3 < 10 := Nat.lt_of_not_le (fun q => g9 ((cmp2_lem (P := 9) hi3 rfl).mpr (by omega)))
            have hA7 : A < 10 ^ 7 := by omega
            have hdd : d = 7 := Nat.le_antisymm (dig_le hDig (by decide) hA7) (by have := dig_ge (k := 6) hDig (by omega); omega)
            have hbq : bys (dgs A d) = [(.int (Int32.ofNat m7)), (.int (Int32.ofNat m6)), (.int (Int32.ofNat m5)), (.int (Int32.ofNat m4)), (.int (Int32.ofNat m3)), (.int (Int32.ofNat m2)), (.int (Int32.ofNat m1))] := by
              rw [hdd, dgs_7 hA7]; simp only [bys, List.map_cons, List.map_nil]
              rw [b8_small (by omega), b8_small (by omega), b8_small (by omega), b8_small (by omega), b8_small (by omega), b8_small (by omega), b8_small (by omega)]
              simp only [hm1, hm2, hm3, hm4, hm5, hm6, hm7, hB0, hB1, hB2, hB3, hr0, hr1, hr2]
            refine OEnds.st (S' := T22.setTop (mkF m 106 #[vi j3, vi (Int32.ofNat P0), vr t, vi j3, vi (Int32.ofNat r2), vi (Int32.ofNat P7), vi (Int32.ofNat sg)] [(.int (Int32.ofNat sg))])) (fun _ k => ?_) ?_
            · refine XS.icmpYes X22.here hx rfl (pc0 := 88) (pc' := 104) rfl (hb hby d_jdk_33_12_88) rfl (flt g9).2.1 (by decide) (by decide) ?_
              refine XS.iload X22.here hx rfl (hb hby d_jdk_33_12_104) rfl ?_
              exact k
            rcases Classical.em ((Int32.ofNat sg) = (0 : Int32)) with gs | gs
            · have s0 : sg = 0 := sg_z hsg gs
              refine OEnds.st (S' := T22.setTop (mkF m 120 #[vi j3, vi (Int32.ofNat P0), vr t, vi j3, vi (Int32.ofNat r2), vi (Int32.ofNat P7), vi (Int32.ofNat sg)] [(.int (Int32.ofNat P7))])) (fun _ k => ?_) ?_
              · refine XS.ifYes X22.here hx rfl (pc0 := 106) (pc' := 118) rfl (hb hby d_jdk_33_12_106) rfl ((if0 _ _).trans (teq gs).1) (by decide) (by decide) ?_
                refine XS.iload X22.here hx rfl (hb hby d_jdk_33_12_118) rfl ?_
                exact k
              exact OEnds.ret X22 hx hret hlk rfl (Or.inl ⟨rfl, by simp, _, rfl⟩) (hb hby d_jdk_33_12_120) (by decide) (by decide) (by rw [e22]; exact ⟨_, vs7, rfl, N1, K0, V_vs7, hl7, T7', by rw [by_sg0 s0, hbq, show n = P7 from by omega]; exact R7⟩)
            · have s1 : sg = 1 := sg_o hsg gs
              refine OEnds.st (S' := T22.setTop (mkF m 110 #[vi j3, vi (Int32.ofNat P0), vr t, vi j3, vi (Int32.ofNat r2), vi (Int32.ofNat P7), vi (Int32.ofNat sg)] [(.ref t)])) (fun _ k => ?_) ?_
              · refine XS.ifNo X22.here hx rfl (hb hby d_jdk_33_12_106) rfl ((if0 _ _).trans (feq gs).1) ?_
                refine XS.aloadN X22.here hx rfl (hb hby d_jdk_33_12_109) rfl rfl ?_
                exact k
              refine OEnds.st (S' := T22.setTop (mkF m 113 #[vi j3, vi (Int32.ofNat P0), vr t, vi j3, vi (Int32.ofNat r2), vi ((Int32.ofNat P7) + (-1 : Int32)), vi (Int32.ofNat sg)] [(.ref t)])) (fun _ k => ?_) ?_
              · refine XS.iinc X22.here hx rfl (hb hby d_jdk_33_12_110) rfl (l' := #[vi j3, vi (Int32.ofNat P0), vr t, vi j3, vi (Int32.ofNat r2), vi ((Int32.ofNat P7) + (-1 : Int32)), vi (Int32.ofNat sg)]) rfl ?_
                exact k
              obtain ⟨P8, hP8⟩ : ∃ p, p = P7 - 1 := ⟨_, rfl⟩
              rw [show Int32.ofNat P7 + (-1 : Int32) = Int32.ofNat P8 from hP8 ▸ ofn_dec (by omega)]
              refine OEnds.st (S' := T22.setTop (mkF m 117 #[vi j3, vi (Int32.ofNat P0), vr t, vi j3, vi (Int32.ofNat r2), vi (Int32.ofNat P8), vi (Int32.ofNat sg)] [(.int 45), (.int (Int32.ofNat P8)), (.ref t)])) (fun _ k => ?_) ?_
              · refine XS.iload X22.here hx rfl (hb hby d_jdk_33_12_113) rfl ?_
                refine XS.bipush X22.here hx rfl (hb hby d_jdk_33_12_115) ?_
                exact k
              obtain ⟨m8, hm8⟩ : ∃ m, m = 45 := ⟨_, rfl⟩
              rw [show (45 : Int32) = Int32.ofNat m8 from by rw [hm8]; rfl]
              have q8 : P8 < cN := by omega
              obtain ⟨cl_t_23, Ar_t_23, q_t_23, S_t_23, N_t_23, H_t_23, G_t_23⟩ := V_vs7
              obtain ⟨T23, h23, X23, e23, W23, st23⟩ := stB X22 hx hZ e22 Ar_t_23 (j := (Int32.ofNat P8)) (inb_of S_t_23 (ix_in q8 hcN)) (g := (mkF m 117 #[vi j3, vi (Int32.ofNat P0), vr t, vi j3, vi (Int32.ofNat r2), vi (Int32.ofNat P8), vi (Int32.ofNat sg)] [(.int (Int32.ofNat m8)), (.int (Int32.ofNat P8)), (.ref t)])) rfl rfl (hb hby d_jdk_33_12_117)
              have V_t_23 : Arv Z h23 t k .byte (Int32.ofNat cN) (List.set vs7 P8 (.int (nar .byte (Int32.ofNat m8)))) (.int 0) := Arv.set Ar_t_23 q_t_23 S_t_23 N_t_23 H_t_23 G_t_23 (fits_nar_byte _) W23 P8 (ofn_clamp (by omega)) (by rw [hl7]; exact q8)
              refine OEnds.st st23 ?_
              replace V_d1 := V_d1.other W23 ne_d1_t
              replace V_d2 := V_d2.other W23 ne_d2_t
              replace O0 : Ext Z.heap h23 := ext_wr O0 W23 ge_t
              replace N1 := Fr.snoc X23 N1 ge_t
              replace K0 : Keep h0 h23 [t] := K0.wr W23 (Or.inl (List.mem_of_getElem? (i := 0) rfl))
              obtain ⟨vs8, V_vs8, hl8, R8, T8'⟩ : ∃ l, Arv Z h23 t k .byte (Int32.ofNat cN) l (.int 0) ∧ l.length = cN ∧ l.drop P8 = [(.int (Int32.ofNat m8)), (.int (Int32.ofNat m7)), (.int (Int32.ofNat m6)), (.int (Int32.ofNat m5)), (.int (Int32.ofNat m4)), (.int (Int32.ofNat m3)), (.int (Int32.ofNat m2)), (.int (Int32.ofNat m1))] ++ vs.drop P0 ∧ l.take n = vs.take n := put_b V_t_23 (by omega) hl7 q8 (by omega) R7 T7' (by omega)
              refine OEnds.st (S' := T23.setTop (mkF m 120 #[vi j3, vi (Int32.ofNat P0), vr t, vi j3, vi (Int32.ofNat r2), vi (Int32.ofNat P8), vi (Int32.ofNat sg)] [(.int (Int32.ofNat P8))])) (fun _ k => ?_) ?_
              · refine XS.iload X23.here hx rfl (hb hby d_jdk_33_12_118) rfl ?_
                exact k
              exact OEnds.ret X23 hx hret hlk rfl (Or.inl ⟨rfl, by simp, _, rfl⟩) (hb hby d_jdk_33_12_120) (by decide) (by decide) (by rw [e23]; exact ⟨_, vs8, rfl, N1, K0, V_vs8, hl8, T8', by rw [by_sg1 s1, ← hm8, hbq, show n = P8 from by omega]; exact R8⟩)
        · have b3 : ¬ B3 < 100 := fun q => g3 ((cmp_lem (P := 100) hi3 rfl).mpr q)
          have dd3 : 8 < d := dig_ge hDig (by omega)
          obtain ⟨B4, hB4⟩ : ∃ b, b = B3 / 100 := ⟨_, rfl⟩
          obtain ⟨r3, hr3⟩ : ∃ b, b = B3 % 100 := ⟨_, rfl⟩
          refine OEnds.st (S' := T19.setTop (mkF m 33 #[vi j3, vi (Int32.ofNat P0), vr t, vi (j3 / (100 : Int32)), vi (Int32.ofNat r2), vi (Int32.ofNat P6), vi (Int32.ofNat sg)] [])) (fun _ k => ?_) ?_
          · refine XS.icmpNo X19.here hx rfl (hb hby d_jdk_33_12_25) rfl (flt g3).2.2.1 ?_
            refine XS.iloadN X19.here hx rfl (hb hby d_jdk_33_12_28) rfl ?_
            refine XS.bipush X19.here hx rfl (hb hby d_jdk_33_12_29) ?_
            refine XS.idiv X19.here hx rfl (hb hby d_jdk_33_12_31) rfl (by decide) ?_
            show Steps p.tables e below (T19.setTop (mkF m 32 #[vi j3, vi (Int32.ofNat P0), vr t, vi j3, vi (Int32.ofNat r2), vi (Int32.ofNat P6), vi (Int32.ofNat sg)] [(.int (j3 / (100 : Int32)))])) _
            refine XS.istoreN X19.here hx rfl (hb hby d_jdk_33_12_32) rfl (l' := #[vi j3, vi (Int32.ofNat P0), vr t, vi (j3 / (100 : Int32)), vi (Int32.ofNat r2), vi (Int32.ofNat P6), vi (Int32.ofNat sg)]) rfl ?_
            exact k
          generalize hg_j4 : (j3 / (100 : Int32)) = j4
          have hi4 : j4.toInt = -((B4 : Nat) : Int) := by rw [hB4, ← hg_j4]; exact q_lem hi3
          refine OEnds.st (S' := T19.setTop (mkF m 39 #[vi j3, vi (Int32.ofNat P0), vr t, vi j4, vi (Int32.ofNat r2), vi (Int32.ofNat P6), vi (Int32.ofNat sg)] [(.int ((j4 * (100 : Int32)) - j3))])) (fun _ k => ?_) ?_
          · refine XS.iloadN X19.here hx rfl (hb hby d_jdk_33_12_33) rfl ?_
            refine XS.bipush X19.here hx rfl (hb hby d_jdk_33_12_34) ?_
            refine XS.imul X19.here hx rfl (hb hby d_jdk_33_12_36) rfl ?_
            refine XS.iloadN X19.here hx rfl (hb hby d_jdk_33_12_37) rfl ?_
            show Steps p.tables e below (T19.setTop (mkF m 38 #[vi j3, vi (Int32.ofNat P0), vr t, vi j4, vi (Int32.ofNat r2), vi (Int32.ofNat P6), vi (Int32.ofNat sg)] [(.int j3), (.int (j4 * (100 : Int32)))])) _
            refine XS.isub X19.here hx rfl (hb hby d_jdk_33_12_38) rfl ?_
            exact k
          rw [show j4 * (100 : Int32) - j3 = Int32.ofNat r3 from by rw [hr3]; exact r_lem (by omega) hi3 (hB4 ▸ hi4)]
          refine OEnds.st (S' := T19.setTop (mkF m 44 #[vi j4, vi (Int32.ofNat P0), vr t, vi j4, vi (Int32.ofNat r3), vi (Int32.ofNat P6), vi (Int32.ofNat sg)] [(.ref t)])) (fun _ k => ?_) ?_
          · refine XS.istore X19.here hx rfl (hb hby d_jdk_33_12_39) rfl (l' := #[vi j3, vi (Int32.ofNat P0), vr t, vi j4, vi (Int32.ofNat r3), vi (Int32.ofNat P6), vi (Int32.ofNat sg)]) rfl ?_
            refine XS.iloadN X19.here hx rfl (hb hby d_jdk_33_12_41) rfl ?_
            refine XS.istoreN X19.here hx rfl (hb hby d_jdk_33_12_42) rfl (l' := #[vi j4, vi (Int32.ofNat P0), vr t, vi j4, vi (Int32.ofNat r3), vi (Int32.ofNat P6), vi (Int32.ofNat sg)]) rfl ?_
            refine XS.aloadN X19.here hx rfl (hb hby d_jdk_33_12_43) rfl rfl ?_
            exact k
          refine OEnds.st (S' := T19.setTop (mkF m 47 #[vi j4, vi (Int32.ofNat P0), vr t, vi j4, vi (Int32.ofNat r3), vi ((Int32.ofNat P6) + (-1 : Int32)), vi (Int32.ofNat sg)] [(.ref t)])) (fun _ k => ?_) ?_
          · refine XS.iinc X19.here hx rfl (hb hby d_jdk_33_12_44) rfl (l' := #[vi j4, vi (Int32.ofNat P0), vr t, vi j4, vi (Int32.ofNat r3), vi ((Int32.ofNat P6) + (-1 : Int32)), vi (Int32.ofNat sg)]) rfl ?_
            exact k
          obtain ⟨P7, hP7⟩ : ∃ p, p = P6 - 1 := ⟨_, rfl⟩
          rw [show Int32.ofNat P6 + (-1 : Int32) = Int32.ofNat P7 from hP7 ▸ ofn_dec (by omega)]
          refine OEnds.st (S' := T19.setTop (mkF m 49 #[vi j4, vi (Int32.ofNat P0), vr t, vi j4, vi (Int32.ofNat r3), vi (Int32.ofNat P7), vi (Int32.ofNat sg)] [(.int (Int32.ofNat P7)), (.ref t)])) (fun _ k => ?_) ?_
          · refine XS.iload X19.here hx rfl (hb hby d_jdk_33_12_47) rfl ?_
            exact k
          obtain ⟨T20, X20, e20, st20⟩ := getS2 X19 hx hZ hown (host := "") (Or.inl (wq hw 131 rfl)) Via.refl e19 (S_D1.ext O0) (g := (mkF m 49 #[vi j4, vi (Int32.ofNat P0), vr t, vi j4, vi (Int32.ofNat r3), vi (Int32.ofNat P7), vi (Int32.ofNat sg)] [(.int (Int32.ofNat P7)), (.ref t)])) rfl (hb hby d_jdk_33_12_49)
          refine OEnds.st st20 ?_
          refine OEnds.st (S' := T20.setTop (mkF m 54 #[vi j4, vi (Int32.ofNat P0), vr t, vi j4, vi (Int32.ofNat r3), vi (Int32.ofNat P7), vi (Int32.ofNat sg)] [(.int (Int32.ofNat r3)), (.ref d1), (.int (Int32.ofNat P7)), (.ref t)])) (fun _ k => ?_) ?_
          · refine XS.iload X20.here hx rfl (hb hby d_jdk_33_12_52) rfl ?_
            exact k
          obtain ⟨cl_d1_21, Ar_d1_21, q_d1_21, S_d1_21, N_d1_21, H_d1_21, G_d1_21⟩ := id V_d1
          refine OEnds.st (S' := T20.setTop (mkF m 55 #[vi j4, vi (Int32.ofNat P0), vr t, vi j4, vi (Int32.ofNat r3), vi (Int32.ofNat P7), vi (Int32.ofNat sg)] [(.int (Int32.ofNat (48 + r3 % 10))), (.int (Int32.ofNat P7)), (.ref t)])) (X20.baloadBytes hx (j := (Int32.ofNat r3)) (v := (.int (Int32.ofNat (48 + r3 % 10)))) (by rw [e20]; exact Ar_d1_21.1) (State.isArrayOf_alike hZ.alike Ar_d1_21.2.1) Ar_d1_21.2.2 (inb_of S_d1_21 (dig_in (m := r3) (by omega))) (H_d1_21.at (inb_of S_d1_21 (dig_in (m := r3) (by omega))) (digO_at (m := r3) (by omega))) (g := (mkF m 54 #[vi j4, vi (Int32.ofNat P0), vr t, vi j4, vi (Int32.ofNat r3), vi (Int32.ofNat P7), vi (Int32.ofNat sg)] [(.int (Int32.ofNat r3)), (.ref d1), (.int (Int32.ofNat P7)), (.ref t)])) rfl rfl (hb hby d_jdk_33_12_54)) ?_
          obtain ⟨m7, hm7⟩ : ∃ m, m = 48 + r3 % 10 := ⟨_, rfl⟩
          rw [show Int32.ofNat (48 + r3 % 10) = Int32.ofNat m7 from congrArg _ hm7.symm]
          have q7 : P7 < cN := by omega
          obtain ⟨cl_t_22, Ar_t_22, q_t_22, S_t_22, N_t_22, H_t_22, G_t_22⟩ := V_vs6
          obtain ⟨T22, h22, X22, e22, W22, st22⟩ := stB X20 hx hZ e20 Ar_t_22 (j := (Int32.ofNat P7)) (inb_of S_t_22 (ix_in q7 hcN)) (g := (mkF m 55 #[vi j4, vi (Int32.ofNat P0), vr t, vi j4, vi (Int32.ofNat r3), vi (Int32.ofNat P7), vi (Int32.ofNat sg)] [(.int (Int32.ofNat m7)), (.int (Int32.ofNat P7)), (.ref t)])) rfl rfl (hb hby d_jdk_33_12_55)
          have V_t_22 : Arv Z h22 t k .byte (Int32.ofNat cN) (List.set vs6 P7 (.int (nar .byte (Int32.ofNat m7)))) (.int 0) := Arv.set Ar_t_22 q_t_22 S_t_22 N_t_22 H_t_22 G_t_22 (fits_nar_byte _) W22 P7 (ofn_clamp (by omega)) (by rw [hl6]; exact q7)
          refine OEnds.st st22 ?_
          replace V_d1 := V_d1.other W22 ne_d1_t
          replace V_d2 := V_d2.other W22 ne_d2_t
          replace O0 : Ext Z.heap h22 := ext_wr O0 W22 ge_t
          replace N1 := Fr.snoc X22 N1 ge_t
          replace K0 : Keep h0 h22 [t] := K0.wr W22 (Or.inl (List.mem_of_getElem? (i := 0) rfl))
          obtain ⟨vs7, V_vs7, hl7, R7, T7'⟩ : ∃ l, Arv Z h22 t k .byte (Int32.ofNat cN) l (.int 0) ∧ l.length = cN ∧ l.drop P7 = [(.int (Int32.ofNat m7)), (.int (Int32.ofNat m6)), (.int (Int32.ofNat m5)), (.int (Int32.ofNat m4)), (.int (Int32.ofNat m3)), (.int (Int32.ofNat m2)), (.int (Int32.ofNat m1))] ++ vs.drop P0 ∧ l.take n = vs.take n := put_b V_t_22 (by omega) hl6 q7 (by omega) R6 T6' (by omega)
          refine OEnds.st (S' := T22.setTop (mkF m 57 #[vi j4, vi (Int32.ofNat P0), vr t, vi j4, vi (Int32.ofNat r3), vi (Int32.ofNat P7), vi (Int32.ofNat sg)] [(.ref t)])) (fun _ k => ?_) ?_
          · refine XS.aloadN X22.here hx rfl (hb hby d_jdk_33_12_56) rfl rfl ?_
            exact k
          refine OEnds.st (S' := T22.setTop (mkF m 60 #[vi j4, vi (Int32.ofNat P0), vr t, vi j4, vi (Int32.ofNat r3), vi ((Int32.ofNat P7) + (-1 : Int32)), vi (Int32.ofNat sg)] [(.ref t)])) (fun _ k => ?_) ?_
          · refine XS.iinc X22.here hx rfl (hb hby d_jdk_33_12_57) rfl (l' := #[vi j4, vi (Int32.ofNat P0), vr t, vi j4, vi (Int32.ofNat r3), vi ((Int32.ofNat P7) + (-1 : Int32)), vi (Int32.ofNat sg)]) rfl ?_
            exact k
          obtain ⟨P8, hP8⟩ : ∃ p, p = P7 - 1 := ⟨_, rfl⟩
          rw [show Int32.ofNat P7 + (-1 : Int32) = Int32.ofNat P8 from hP8 ▸ ofn_dec (by omega)]
          refine OEnds.st (S' := T22.setTop (mkF m 62 #[vi j4, vi (Int32.ofNat P0), vr t, vi j4, vi (Int32.ofNat r3), vi (Int32.ofNat P8), vi (Int32.ofNat sg)] [(.int (Int32.ofNat P8)), (.ref t)])) (fun _ k => ?_) ?_
          · refine XS.iload X22.here hx rfl (hb hby d_jdk_33_12_60) rfl ?_
            exact k
          obtain ⟨T23, X23, e23, st23⟩ := getS2 X22 hx hZ hown (host := "") (Or.inl (wq hw 247 rfl)) Via.refl e22 (S_D2.ext O0) (g := (mkF m 62 #[vi j4, vi (Int32.ofNat P0), vr t, vi j4, vi (Int32.ofNat r3), vi (Int32.ofNat P8), vi (Int32.ofNat sg)] [(.int (Int32.ofNat P8)), (.ref t)])) rfl (hb hby d_jdk_33_12_62)
          refine OEnds.st st23 ?_
          refine OEnds.st (S' := T23.setTop (mkF m 67 #[vi j4, vi (Int32.ofNat P0), vr t, vi j4, vi (Int32.ofNat r3), vi (Int32.ofNat P8), vi (Int32.ofNat sg)] [(.int (Int32.ofNat r3)), (.ref d2), (.int (Int32.ofNat P8)), (.ref t)])) (fun _ k => ?_) ?_
          · refine XS.iload X23.here hx rfl (hb hby d_jdk_33_12_65) rfl ?_
            exact k
          obtain ⟨cl_d2_24, Ar_d2_24, q_d2_24, S_d2_24, N_d2_24, H_d2_24, G_d2_24⟩ := id V_d2
          refine OEnds.st (S' := T23.setTop (mkF m 68 #[vi j4, vi (Int32.ofNat P0), vr t, vi j4, vi (Int32.ofNat r3), vi (Int32.ofNat P8), vi (Int32.ofNat sg)] [(.int (Int32.ofNat (48 + r3 / 10))), (.int (Int32.ofNat P8)), (.ref t)])) (X23.baloadBytes hx (j := (Int32.ofNat r3)) (v := (.int (Int32.ofNat (48 + r3 / 10)))) (by rw [e23]; exact Ar_d2_24.1) (State.isArrayOf_alike hZ.alike Ar_d2_24.2.1) Ar_d2_24.2.2 (inb_of S_d2_24 (dig_in (m := r3) (by omega))) (H_d2_24.at (inb_of S_d2_24 (dig_in (m := r3) (by omega))) (digT_at (m := r3) (by omega))) (g := (mkF m 67 #[vi j4, vi (Int32.ofNat P0), vr t, vi j4, vi (Int32.ofNat r3), vi (Int32.ofNat P8), vi (Int32.ofNat sg)] [(.int (Int32.ofNat r3)), (.ref d2), (.int (Int32.ofNat P8)), (.ref t)])) rfl rfl (hb hby d_jdk_33_12_67)) ?_
          obtain ⟨m8, hm8⟩ : ∃ m, m = 48 + r3 / 10 := ⟨_, rfl⟩
          rw [show Int32.ofNat (48 + r3 / 10) = Int32.ofNat m8 from congrArg _ hm8.symm]
          have q8 : P8 < cN := by omega
          obtain ⟨cl_t_25, Ar_t_25, q_t_25, S_t_25, N_t_25, H_t_25, G_t_25⟩ := V_vs7
          obtain ⟨T25, h25, X25, e25, W25, st25⟩ := stB X23 hx hZ e23 Ar_t_25 (j := (Int32.ofNat P8)) (inb_of S_t_25 (ix_in q8 hcN)) (g := (mkF m 68 #[vi j4, vi (Int32.ofNat P0), vr t, vi j4, vi (Int32.ofNat r3), vi (Int32.ofNat P8), vi (Int32.ofNat sg)] [(.int (Int32.ofNat m8)), (.int (Int32.ofNat P8)), (.ref t)])) rfl rfl (hb hby d_jdk_33_12_68)
          have V_t_25 : Arv Z h25 t k .byte (Int32.ofNat cN) (List.set vs7 P8 (.int (nar .byte (Int32.ofNat m8)))) (.int 0) := Arv.set Ar_t_25 q_t_25 S_t_25 N_t_25 H_t_25 G_t_25 (fits_nar_byte _) W25 P8 (ofn_clamp (by omega)) (by rw [hl7]; exact q8)
          refine OEnds.st st25 ?_
          replace V_d1 := V_d1.other W25 ne_d1_t
          replace V_d2 := V_d2.other W25 ne_d2_t
          replace O0 : Ext Z.heap h25 := ext_wr O0 W25 ge_t
          replace N1 := Fr.snoc X25 N1 ge_t
          replace K0 : Keep h0 h25 [t] := K0.wr W25 (Or.inl (List.mem_of_getElem? (i := 0) rfl))
          obtain ⟨vs8, V_vs8, hl8, R8, T8'⟩ : ∃ l, Arv Z h25 t k .byte (Int32.ofNat cN) l (.int 0) ∧ l.length = cN ∧ l.drop P8 = [(.int (Int32.ofNat m8)), (.int (Int32.ofNat m7)), (.int (Int32.ofNat m6)), (.int (Int32.ofNat m5)), (.int (Int32.ofNat m4)), (.int (Int32.ofNat m3)), (.int (Int32.ofNat m2)), (.int (Int32.ofNat m1))] ++ vs.drop P0 ∧ l.take n = vs.take n := put_b V_t_25 (by omega) hl7 q8 (by omega) R7 T7' (by omega)
          refine OEnds.st (S' := T25.setTop (mkF m 22 #[vi j4, vi (Int32.ofNat P0), vr t, vi j4, vi (Int32.ofNat r3), vi (Int32.ofNat P8), vi (Int32.ofNat sg)] [])) (fun _ k => ?_) ?_
          · refine XS.goto X25.here hx rfl (pc0 := 69) (pc' := 22) rfl (hb hby d_jdk_33_12_69) (by decide) (by decide) ?_
            exact k
          have b4 : B4 < 100 := by omega
          refine OEnds.st (S' := T25.setTop (mkF m 72 #[vi j4, vi (Int32.ofNat P0), vr t, vi j4, vi (Int32.ofNat r3), vi (Int32.ofNat P8), vi (Int32.ofNat sg)] [])) (fun _ k => ?_) ?_
          · refine XS.iloadN X25.here hx rfl (hb hby d_jdk_33_12_22) rfl ?_
            refine XS.bipush X25.here hx rfl (hb hby d_jdk_33_12_23) ?_
            refine XS.icmpYes X25.here hx rfl (pc0 := 25) (pc' := 72) rfl (hb hby d_jdk_33_12_25) rfl (tlt ((cmp_lem (P := 100) hi4 rfl).mpr b4)).2.2.1 (by decide) (by decide) ?_
            exact k
          refine OEnds.st (S' := T25.setTop (mkF m 73 #[vi j4, vi (Int32.ofNat P0), vr t, vi j4, vi (Int32.ofNat r3), vi (Int32.ofNat P8), vi (Int32.ofNat sg)] [(.ref t)])) (fun _ k => ?_) ?_
          · refine XS.aloadN X25.here hx rfl (hb hby d_jdk_33_12_72) rfl rfl ?_
            exact k
          refine OEnds.st (S' := T25.setTop (mkF m 76 #[vi j4, vi (Int32.ofNat P0), vr t, vi j4, vi (Int32.ofNat r3), vi ((Int32.ofNat P8) + (-1 : Int32)), vi (Int32.ofNat sg)] [(.ref t)])) (fun _ k => ?_) ?_
          · refine XS.iinc X25.here hx rfl (hb hby d_jdk_33_12_73) rfl (l' := #[vi j4, vi (Int32.ofNat P0), vr t, vi j4, vi (Int32.ofNat r3), vi ((Int32.ofNat P8) + (-1 : Int32)), vi (Int32.ofNat sg)]) rfl ?_
            exact k
          obtain ⟨P9, hP9⟩ : ∃ p, p = P8 - 1 := ⟨_, rfl⟩
          rw [show Int32.ofNat P8 + (-1 : Int32) = Int32.ofNat P9 from hP9 ▸ ofn_dec (by omega)]
          refine OEnds.st (S' := T25.setTop (mkF m 78 #[vi j4, vi (Int32.ofNat P0), vr t, vi j4, vi (Int32.ofNat r3), vi (Int32.ofNat P9), vi (Int32.ofNat sg)] [(.int (Int32.ofNat P9)), (.ref t)])) (fun _ k => ?_) ?_
          · refine XS.iload X25.here hx rfl (hb hby d_jdk_33_12_76) rfl ?_
            exact k
          obtain ⟨T26, X26, e26, st26⟩ := getS2 X25 hx hZ hown (host := "") (Or.inl (wq hw 131 rfl)) Via.refl e25 (S_D1.ext O0) (g := (mkF m 78 #[vi j4, vi (Int32.ofNat P0), vr t, vi j4, vi (Int32.ofNat r3), vi (Int32.ofNat P9), vi (Int32.ofNat sg)] [(.int (Int32.ofNat P9)), (.ref t)])) rfl (hb hby d_jdk_33_12_78)
          refine OEnds.st st26 ?_
          refine OEnds.st (S' := T26.setTop (mkF m 83 #[vi j4, vi (Int32.ofNat P0), vr t, vi j4, vi (Int32.ofNat r3), vi (Int32.ofNat P9), vi (Int32.ofNat sg)] [(.int (-j4)), (.ref d1), (.int (Int32.ofNat P9)), (.ref t)])) (fun _ k => ?_) ?_
          · refine XS.iloadN X26.here hx rfl (hb hby d_jdk_33_12_81) rfl ?_
            refine XS.ineg X26.here hx rfl (hb hby d_jdk_33_12_82) rfl ?_
            exact k
          rw [neg_lem (B := B4) (by omega) hi4]
          obtain ⟨cl_d1_27, Ar_d1_27, q_d1_27, S_d1_27, N_d1_27, H_d1_27, G_d1_27⟩ := id V_d1
          refine OEnds.st (S' := T26.setTop (mkF m 84 #[vi j4, vi (Int32.ofNat P0), vr t, vi j4, vi (Int32.ofNat r3), vi (Int32.ofNat P9), vi (Int32.ofNat sg)] [(.int (Int32.ofNat (48 + B4 % 10))), (.int (Int32.ofNat P9)), (.ref t)])) (X26.baloadBytes hx (j := (Int32.ofNat B4)) (v := (.int (Int32.ofNat (48 + B4 % 10)))) (by rw [e26]; exact Ar_d1_27.1) (State.isArrayOf_alike hZ.alike Ar_d1_27.2.1) Ar_d1_27.2.2 (inb_of S_d1_27 (dig_in (m := B4) (by omega))) (H_d1_27.at (inb_of S_d1_27 (dig_in (m := B4) (by omega))) (digO_at (m := B4) (by omega))) (g := (mkF m 83 #[vi j4, vi (Int32.ofNat P0), vr t, vi j4, vi (Int32.ofNat r3), vi (Int32.ofNat P9), vi (Int32.ofNat sg)] [(.int (Int32.ofNat B4)), (.ref d1), (.int (Int32.ofNat P9)), (.ref t)])) rfl rfl (hb hby d_jdk_33_12_83)) ?_
          obtain ⟨m9, hm9⟩ : ∃ m, m = 48 + B4 % 10 := ⟨_, rfl⟩
          rw [show Int32.ofNat (48 + B4 % 10) = Int32.ofNat m9 from congrArg _ hm9.symm]
          have q9 : P9 < cN := by omega
          obtain ⟨cl_t_28, Ar_t_28, q_t_28, S_t_28, N_t_28, H_t_28, G_t_28⟩ := V_vs8
          obtain ⟨T28, h28, X28, e28, W28, st28⟩ := stB X26 hx hZ e26 Ar_t_28 (j := (Int32.ofNat P9)) (inb_of S_t_28 (ix_in q9 hcN)) (g := (mkF m 84 #[vi j4, vi (Int32.ofNat P0), vr t, vi j4, vi (Int32.ofNat r3), vi (Int32.ofNat P9), vi (Int32.ofNat sg)] [(.int (Int32.ofNat m9)), (.int (Int32.ofNat P9)), (.ref t)])) rfl rfl (hb hby d_jdk_33_12_84)
          have V_t_28 : Arv Z h28 t k .byte (Int32.ofNat cN) (List.set vs8 P9 (.int (nar .byte (Int32.ofNat m9)))) (.int 0) := Arv.set Ar_t_28 q_t_28 S_t_28 N_t_28 H_t_28 G_t_28 (fits_nar_byte _) W28 P9 (ofn_clamp (by omega)) (by rw [hl8]; exact q9)
          refine OEnds.st st28 ?_
          replace V_d1 := V_d1.other W28 ne_d1_t
          replace V_d2 := V_d2.other W28 ne_d2_t
          replace O0 : Ext Z.heap h28 := ext_wr O0 W28 ge_t
          replace N1 := Fr.snoc X28 N1 ge_t
          replace K0 : Keep h0 h28 [t] := K0.wr W28 (Or.inl (List.mem_of_getElem? (i := 0) rfl))
          obtain ⟨vs9, V_vs9, hl9, R9, T9'⟩ : ∃ l, Arv Z h28 t k .byte (Int32.ofNat cN) l (.int 0) ∧ l.length = cN ∧ l.drop P9 = [(.int (Int32.ofNat m9)), (.int (Int32.ofNat m8)), (.int (Int32.ofNat m7)), (.int (Int32.ofNat m6)), (.int (Int32.ofNat m5)), (.int (Int32.ofNat m4)), (.int (Int32.ofNat m3)), (.int (Int32.ofNat m2)), (.int (Int32.ofNat m1))] ++ vs.drop P0 ∧ l.take n = vs.take n := put_b V_t_28 (by omega) hl8 q9 (by omega) R8 T8' (by omega)
          refine OEnds.st (S' := T28.setTop (mkF m 88 #[vi j4, vi (Int32.ofNat P0), vr t, vi j4, vi (Int32.ofNat r3), vi (Int32.ofNat P9), vi (Int32.ofNat sg)] [(.int (-9)), (.int j4)])) (fun _ k => ?_) ?_
          · refine XS.iloadN X28.here hx rfl (hb hby d_jdk_33_12_85) rfl ?_
            refine XS.bipush X28.here hx rfl (hb hby d_jdk_33_12_86) ?_
            exact k
          rcases Classical.em (j4 < (-9 : Int32)) with g9 | g9
          · have c4 : 9 < B4 := (cmp2_lem (P := 9) hi4 rfl).mp g9
            have ee4 : 9 < d := dig_ge hDig (by omega)
            refine OEnds.st (S' := T28.setTop (mkF m 91 #[vi j4, vi (Int32.ofNat P0), vr t, vi j4, vi (Int32.ofNat r3), vi (Int32.ofNat P9), vi (Int32.ofNat sg)] [])) (fun _ k => ?_) ?_
            · refine XS.icmpNo X28.here hx rfl (hb hby d_jdk_33_12_88) rfl (tlt g9).2.1 ?_
              exact k
            refine OEnds.st (S' := T28.setTop (mkF m 92 #[vi j4, vi (Int32.ofNat P0), vr t, vi j4, vi (Int32.ofNat r3), vi (Int32.ofNat P9), vi (Int32.ofNat sg)] [(.ref t)])) (fun _ k => ?_) ?_
            · refine XS.aloadN X28.here hx rfl (hb hby d_jdk_33_12_91) rfl rfl ?_
              exact k
            refine OEnds.st (S' := T28.setTop (mkF m 95 #[vi j4, vi (Int32.ofNat P0), vr t, vi j4, vi (Int32.ofNat r3), vi ((Int32.ofNat P9) + (-1 : Int32)), vi (Int32.ofNat sg)] [(.ref t)])) (fun _ k => ?_) ?_
            · refine XS.iinc X28.here hx rfl (hb hby d_jdk_33_12_92) rfl (l' := #[vi j4, vi (Int32.ofNat P0), vr t, vi j4, vi (Int32.ofNat r3), vi ((Int32.ofNat P9) + (-1 : Int32)), vi (Int32.ofNat sg)]) rfl ?_
              exact k
            obtain ⟨P10, hP10⟩ : ∃ p, p = P9 - 1 := ⟨_, rfl⟩
            rw [show Int32.ofNat P9 + (-1 : Int32) = Int32.ofNat P10 from hP10 ▸ ofn_dec (by omega)]
            refine OEnds.st (S' := T28.setTop (mkF m 97 #[vi j4, vi (Int32.ofNat P0), vr t, vi j4, vi (Int32.ofNat r3), vi (Int32.ofNat P10), vi (Int32.ofNat sg)] [(.int (Int32.ofNat P10)), (.ref t)])) (fun _ k => ?_) ?_
            · refine XS.iload X28.here hx rfl (hb hby d_jdk_33_12_95) rfl ?_
              exact k
            obtain ⟨T29, X29, e29, st29⟩ := getS2 X28 hx hZ hown (host := "") (Or.inl (wq hw 247 rfl)) Via.refl e28 (S_D2.ext O0) (g := (mkF m 97 #[vi j4, vi (Int32.ofNat P0), vr t, vi j4, vi (Int32.ofNat r3), vi (Int32.ofNat P10), vi (Int32.ofNat sg)] [(.int (Int32.ofNat P10)), (.ref t)])) rfl (hb hby d_jdk_33_12_97)
            refine OEnds.st st29 ?_
            refine OEnds.st (S' := T29.setTop (mkF m 102 #[vi j4, vi (Int32.ofNat P0), vr t, vi j4, vi (Int32.ofNat r3), vi (Int32.ofNat P10), vi (Int32.ofNat sg)] [(.int (-j4)), (.ref d2), (.int (Int32.ofNat P10)), (.ref t)])) (fun _ k => ?_) ?_
            · refine XS.iloadN X29.here hx rfl (hb hby d_jdk_33_12_100) rfl ?_
              refine XS.ineg X29.here hx rfl (hb hby d_jdk_33_12_101) rfl ?_
              exact k
            rw [neg_lem (B := B4) (by omega) hi4]
            obtain ⟨cl_d2_30, Ar_d2_30, q_d2_30, S_d2_30, N_d2_30, H_d2_30, G_d2_30⟩ := id V_d2
            refine OEnds.st (S' := T29.setTop (mkF m 103 #[vi j4, vi (Int32.ofNat P0), vr t, vi j4, vi (Int32.ofNat r3), vi (Int32.ofNat P10), vi (Int32.ofNat sg)] [(.int (Int32.ofNat (48 + B4 / 10))), (.int (Int32.ofNat P10)), (.ref t)])) (X29.baloadBytes hx (j := (Int32.ofNat B4)) (v := (.int (Int32.ofNat (48 + B4 / 10)))) (by rw [e29]; exact Ar_d2_30.1) (State.isArrayOf_alike hZ.alike Ar_d2_30.2.1) Ar_d2_30.2.2 (inb_of S_d2_30 (dig_in (m := B4) (by omega))) (H_d2_30.at (inb_of S_d2_30 (dig_in (m := B4) (by omega))) (digT_at (m := B4) (by omega))) (g := (mkF m 102 #[vi j4, vi (Int32.ofNat P0), vr t, vi j4, vi (Int32.ofNat r3), vi (Int32.ofNat P10), vi (Int32.ofNat sg)] [(.int (Int32.ofNat B4)), (.ref d2), (.int (Int32.ofNat P10)), (.ref t)])) rfl rfl (hb hby d_jdk_33_12_102)) ?_
            obtain ⟨m10, hm10⟩ : ∃ m, m = 48 + B4 / 10 := ⟨_, rfl⟩
            rw [show Int32.ofNat (48 + B4 / 10) = Int32.ofNat m10 from congrArg _ hm10.symm]
            have q10 : P10 < cN := by omega
            obtain ⟨cl_t_31, Ar_t_31, q_t_31, S_t_31, N_t_31, H_t_31, G_t_31⟩ := V_vs9
            obtain ⟨T31, h31, X31, e31, W31, st31⟩ := stB X29 hx hZ e29 Ar_t_31 (j := (Int32.ofNat P10)) (inb_of S_t_31 (ix_in q10 hcN)) (g := (mkF m 103 #[vi j4, vi (Int32.ofNat P0), vr t, vi j4, vi (Int32.ofNat r3), vi (Int32.ofNat P10), vi (Int32.ofNat sg)] [(.int (Int32.ofNat m10)), (.int (Int32.ofNat P10)), (.ref t)])) rfl rfl (hb hby d_jdk_33_12_103)
            have V_t_31 : Arv Z h31 t k .byte (Int32.ofNat cN) (List.set vs9 P10 (.int (nar .byte (Int32.ofNat m10)))) (.int 0) := Arv.set Ar_t_31 q_t_31 S_t_31 N_t_31 H_t_31 G_t_31 (fits_nar_byte _) W31 P10 (ofn_clamp (by omega)) (by rw [hl9]; exact q10)
            refine OEnds.st st31 ?_
            replace V_d1 := V_d1.other W31 ne_d1_t
            replace V_d2 := V_d2.other W31 ne_d2_t
            replace O0 : Ext Z.heap h31 := ext_wr O0 W31 ge_t
            replace N1 := Fr.snoc X31 N1 ge_t
            replace K0 : Keep h0 h31 [t] := K0.wr W31 (Or.inl (List.mem_of_getElem? (i := 0) rfl))
            obtain ⟨vs10, V_vs10, hl10, R10, T10'⟩ : ∃ l, Arv Z h31 t k .byte (Int32.ofNat cN) l (.int 0) ∧ l.length = cN ∧ l.drop P10 = [(.int (Int32.ofNat m10)), (.int (Int32.ofNat m9)), (.int (Int32.ofNat m8)), (.int (Int32.ofNat m7)), (.int (Int32.ofNat m6)), (.int (Int32.ofNat m5)), (.int (Int32.ofNat m4)), (.int (Int32.ofNat m3)), (.int (Int32.ofNat m2)), (.int (Int32.ofNat m1))] ++ vs.drop P0 ∧ l.take n = vs.take n := put_b V_t_31 (by omega) hl9 q10 (by omega) R9 T9' (by omega)
            have hA10 : A < 10 ^ 10 := by omega
            have hdd : d = 10 := Nat.le_antisymm (dig_le hDig (by decide) hA10) (by have := dig_ge (k := 9) hDig (by omega); omega)
            have hbq : bys (dgs A d) = [(.int (Int32.ofNat m10)), (.int (Int32.ofNat m9)), (.int (Int32.ofNat m8)), (.int (Int32.ofNat m7)), (.int (Int32.ofNat m6)), (.int (Int32.ofNat m5)), (.int (Int32.ofNat m4)), (.int (Int32.ofNat m3)), (.int (Int32.ofNat m2)), (.int (Int32.ofNat m1))] := by
              rw [hdd, dgs_10 hA10]; simp only [bys, List.map_cons, List.map_nil]
              rw [b8_small (by omega), b8_small (by omega), b8_small (by omega), b8_small (by omega), b8_small (by omega), b8_small (by omega), b8_small (by omega), b8_small (by omega), b8_small (by omega), b8_small (by omega)]
              simp only [hm1, hm2, hm3, hm4, hm5, hm6, hm7, hm8, hm9, hm10, hB0, hB1, hB2, hB3, hB4, hr0, hr1, hr2, hr3]
            refine OEnds.st (S' := T31.setTop (mkF m 106 #[vi j4, vi (Int32.ofNat P0), vr t, vi j4, vi (Int32.ofNat r3), vi (Int32.ofNat P10), vi (Int32.ofNat sg)] [(.int (Int32.ofNat sg))])) (fun _ k => ?_) ?_
            · refine XS.iload X31.here hx rfl (hb hby d_jdk_33_12_104) rfl ?_
              exact k
            rcases Classical.em ((Int32.ofNat sg) = (0 : Int32)) with gs | gs
            · have s0 : sg = 0 := sg_z hsg gs
              refine OEnds.st (S' := T31.setTop (mkF m 120 #[vi j4, vi (Int32.ofNat P0), vr t, vi j4, vi (Int32.ofNat r3), vi (Int32.ofNat P10), vi (Int32.ofNat sg)] [(.int (Int32.ofNat P10))])) (fun _ k => ?_) ?_
              · refine XS.ifYes X31.here hx rfl (pc0 := 106) (pc' := 118) rfl (hb hby d_jdk_33_12_106) rfl ((if0 _ _).trans (teq gs).1) (by decide) (by decide) ?_
                refine XS.iload X31.here hx rfl (hb hby d_jdk_33_12_118) rfl ?_
                exact k
              exact OEnds.ret X31 hx hret hlk rfl (Or.inl ⟨rfl, by simp, _, rfl⟩) (hb hby d_jdk_33_12_120) (by decide) (by decide) (by rw [e31]; exact ⟨_, vs10, rfl, N1, K0, V_vs10, hl10, T10', by rw [by_sg0 s0, hbq, show n = P10 from by omega]; exact R10⟩)
            · have s1 : sg = 1 := sg_o hsg gs
              refine OEnds.st (S' := T31.setTop (mkF m 110 #[vi j4, vi (Int32.ofNat P0), vr t, vi j4, vi (Int32.ofNat r3), vi (Int32.ofNat P10), vi (Int32.ofNat sg)] [(.ref t)])) (fun _ k => ?_) ?_
              · refine XS.ifNo X31.here hx rfl (hb hby d_jdk_33_12_106) rfl ((if0 _ _).trans (feq gs).1) ?_
                refine XS.aloadN X31.here hx rfl (hb hby d_jdk_33_12_109) rfl rfl ?_
                exact k
              refine OEnds.st (S' := T31.setTop (mkF m 113 #[vi j4, vi (Int32.ofNat P0), vr t, vi j4, vi (Int32.ofNat r3), vi ((Int32.ofNat P10) + (-1 : Int32)), vi (Int32.ofNat sg)] [(.ref t)])) (fun _ k => ?_) ?_
              · refine XS.iinc X31.here hx rfl (hb hby d_jdk_33_12_110) rfl (l' := #[vi j4, vi (Int32.ofNat P0), vr t, vi j4, vi (Int32.ofNat r3), vi ((Int32.ofNat P10) + (-1 : Int32)), vi (Int32.ofNat sg)]) rfl ?_
                exact k
              obtain ⟨P11, hP11⟩ : ∃ p, p = P10 - 1 := ⟨_, rfl⟩
              rw [show Int32.ofNat P10 + (-1 : Int32) = Int32.ofNat P11 from hP11 ▸ ofn_dec (by omega)]
              refine OEnds.st (S' := T31.setTop (mkF m 117 #[vi j4, vi (Int32.ofNat P0), vr t, vi j4, vi (Int32.ofNat r3), vi (Int32.ofNat P11), vi (Int32.ofNat sg)] [(.int 45), (.int (Int32.ofNat P11)), (.ref t)])) (fun _ k => ?_) ?_
              · refine XS.iload X31.here hx rfl (hb hby d_jdk_33_12_113) rfl ?_
                refine XS.bipush X31.here hx rfl (hb hby d_jdk_33_12_115) ?_
                exact k
              obtain ⟨m11, hm11⟩ : ∃ m, m = 45 := ⟨_, rfl⟩
              rw [show (45 : Int32) = Int32.ofNat m11 from by rw [hm11]; rfl]
              have q11 : P11 < cN := by omega
              obtain ⟨cl_t_32, Ar_t_32, q_t_32, S_t_32, N_t_32, H_t_32, G_t_32⟩ := V_vs10
              obtain ⟨T32, h32, X32, e32, W32, st32⟩ := stB X31 hx hZ e31 Ar_t_32 (j := (Int32.ofNat P11)) (inb_of S_t_32 (ix_in q11 hcN)) (g := (mkF m 117 #[vi j4, vi (Int32.ofNat P0), vr t, vi j4, vi (Int32.ofNat r3), vi (Int32.ofNat P11), vi (Int32.ofNat sg)] [(.int (Int32.ofNat m11)), (.int (Int32.ofNat P11)), (.ref t)])) rfl rfl (hb hby d_jdk_33_12_117)
              have V_t_32 : Arv Z h32 t k .byte (Int32.ofNat cN) (List.set vs10 P11 (.int (nar .byte (Int32.ofNat m11)))) (.int 0) := Arv.set Ar_t_32 q_t_32 S_t_32 N_t_32 H_t_32 G_t_32 (fits_nar_byte _) W32 P11 (ofn_clamp (by omega)) (by rw [hl10]; exact q11)
              refine OEnds.st st32 ?_
              replace V_d1 := V_d1.other W32 ne_d1_t
              replace V_d2 := V_d2.other W32 ne_d2_t
              replace O0 : Ext Z.heap h32 := ext_wr O0 W32 ge_t
              replace N1 := Fr.snoc X32 N1 ge_t
              replace K0 : Keep h0 h32 [t] := K0.wr W32 (Or.inl (List.mem_of_getElem? (i := 0) rfl))
              obtain ⟨vs11, V_vs11, hl11, R11, T11'⟩ : ∃ l, Arv Z h32 t k .byte (Int32.ofNat cN) l (.int 0) ∧ l.length = cN ∧ l.drop P11 = [(.int (Int32.ofNat m11)), (.int (Int32.ofNat m10)), (.int (Int32.ofNat m9)), (.int (Int32.ofNat m8)), (.int (Int32.ofNat m7)), (.int (Int32.ofNat m6)), (.int (Int32.ofNat m5)), (.int (Int32.ofNat m4)), (.int (Int32.ofNat m3)), (.int (Int32.ofNat m2)), (.int (Int32.ofNat m1))] ++ vs.drop P0 ∧ l.take n = vs.take n := put_b V_t_32 (by omega) hl10 q11 (by omega) R10 T10' (by omega)
              refine OEnds.st (S' := T32.setTop (mkF m 120 #[vi j4, vi (Int32.ofNat P0), vr t, vi j4, vi (Int32.ofNat r3), vi (Int32.ofNat P11), vi (Int32.ofNat sg)] [(.int (Int32.ofNat P11))])) (fun _ k => ?_) ?_
              · refine XS.iload X32.here hx rfl (hb hby d_jdk_33_12_118) rfl ?_
                exact k
              exact OEnds.ret X32 hx hret hlk rfl (Or.inl ⟨rfl, by simp, _, rfl⟩) (hb hby d_jdk_33_12_120) (by decide) (by decide) (by rw [e32]; exact ⟨_, vs11, rfl, N1, K0, V_vs11, hl11, T11', by rw [by_sg1 s1, ← hm11, hbq, show n = P11 from by omega]; exact R11⟩)
          · have c4 : B4 < 10 := Nat.lt_of_not_le (fun q => g9 ((cmp2_lem (P := 9) hi4 rfl).mpr (by omega)))
            have hA9 : A < 10 ^ 9 := by omega
            have hdd : d = 9 := Nat.le_antisymm (dig_le hDig (by decide) hA9) (by have := dig_ge (k := 8) hDig (by omega); omega)
            have hbq : bys (dgs A d) = [(.int (Int32.ofNat m9)), (.int (Int32.ofNat m8)), (.int (Int32.ofNat m7)), (.int (Int32.ofNat m6)), (.int (Int32.ofNat m5)), (.int (Int32.ofNat m4)), (.int (Int32.ofNat m3)), (.int (Int32.ofNat m2)), (.int (Int32.ofNat m1))] := by
              rw [hdd, dgs_9 hA9]; simp only [bys, List.map_cons, List.map_nil]
              rw [b8_small (by omega), b8_small (by omega), b8_small (by omega), b8_small (by omega), b8_small (by omega), b8_small (by omega), b8_small (by omega), b8_small (by omega), b8_small (by omega)]
              simp only [hm1, hm2, hm3, hm4, hm5, hm6, hm7, hm8, hm9, hB0, hB1, hB2, hB3, hB4, hr0, hr1, hr2, hr3]
            refine OEnds.st (S' := T28.setTop (mkF m 106 #[vi j4, vi (Int32.ofNat P0), vr t, vi j4, vi (Int32.ofNat r3), vi (Int32.ofNat P9), vi (Int32.ofNat sg)] [(.int (Int32.ofNat sg))])) (fun _ k => ?_) ?_
            · refine XS.icmpYes X28.here hx rfl (pc0 := 88) (pc' := 104) rfl (hb hby d_jdk_33_12_88) rfl (flt g9).2.1 (by decide) (by decide) ?_
              refine XS.iload X28.here hx rfl (hb hby d_jdk_33_12_104) rfl ?_
              exact k
            rcases Classical.em ((Int32.ofNat sg) = (0 : Int32)) with gs | gs
            · have s0 : sg = 0 := sg_z hsg gs
              refine OEnds.st (S' := T28.setTop (mkF m 120 #[vi j4, vi (Int32.ofNat P0), vr t, vi j4, vi (Int32.ofNat r3), vi (Int32.ofNat P9), vi (Int32.ofNat sg)] [(.int (Int32.ofNat P9))])) (fun _ k => ?_) ?_
              · refine XS.ifYes X28.here hx rfl (pc0 := 106) (pc' := 118) rfl (hb hby d_jdk_33_12_106) rfl ((if0 _ _).trans (teq gs).1) (by decide) (by decide) ?_
                refine XS.iload X28.here hx rfl (hb hby d_jdk_33_12_118) rfl ?_
                exact k
              exact OEnds.ret X28 hx hret hlk rfl (Or.inl ⟨rfl, by simp, _, rfl⟩) (hb hby d_jdk_33_12_120) (by decide) (by decide) (by rw [e28]; exact ⟨_, vs9, rfl, N1, K0, V_vs9, hl9, T9', by rw [by_sg0 s0, hbq, show n = P9 from by omega]; exact R9⟩)
            · have s1 : sg = 1 := sg_o hsg gs
              refine OEnds.st (S' := T28.setTop (mkF m 110 #[vi j4, vi (Int32.ofNat P0), vr t, vi j4, vi (Int32.ofNat r3), vi (Int32.ofNat P9), vi (Int32.ofNat sg)] [(.ref t)])) (fun _ k => ?_) ?_
              · refine XS.ifNo X28.here hx rfl (hb hby d_jdk_33_12_106) rfl ((if0 _ _).trans (feq gs).1) ?_
                refine XS.aloadN X28.here hx rfl (hb hby d_jdk_33_12_109) rfl rfl ?_
                exact k
              refine OEnds.st (S' := T28.setTop (mkF m 113 #[vi j4, vi (Int32.ofNat P0), vr t, vi j4, vi (Int32.ofNat r3), vi ((Int32.ofNat P9) + (-1 : Int32)), vi (Int32.ofNat sg)] [(.ref t)])) (fun _ k => ?_) ?_
              · refine XS.iinc X28.here hx rfl (hb hby d_jdk_33_12_110) rfl (l' := #[vi j4, vi (Int32.ofNat P0), vr t, vi j4, vi (Int32.ofNat r3), vi ((Int32.ofNat P9) + (-1 : Int32)), vi (Int32.ofNat sg)]) rfl ?_
                exact k
              obtain ⟨P10, hP10⟩ : ∃ p, p = P9 - 1 := ⟨_, rfl⟩
              rw [show Int32.ofNat P9 + (-1 : Int32) = Int32.ofNat P10 from hP10 ▸ ofn_dec (by omega)]
              refine OEnds.st (S' := T28.setTop (mkF m 117 #[vi j4, vi (Int32.ofNat P0), vr t, vi j4, vi (Int32.ofNat r3), vi (Int32.ofNat P10), vi (Int32.ofNat sg)] [(.int 45), (.int (Int32.ofNat P10)), (.ref t)])) (fun _ k => ?_) ?_
              · refine XS.iload X28.here hx rfl (hb hby d_jdk_33_12_113) rfl ?_
                refine XS.bipush X28.here hx rfl (hb hby d_jdk_33_12_115) ?_
                exact k
              obtain ⟨m10, hm10⟩ : ∃ m, m = 45 := ⟨_, rfl⟩
              rw [show (45 : Int32) = Int32.ofNat m10 from by rw [hm10]; rfl]
              have q10 : P10 < cN := by omega
              obtain ⟨cl_t_29, Ar_t_29, q_t_29, S_t_29, N_t_29, H_t_29, G_t_29⟩ := V_vs9
              obtain ⟨T29, h29, X29, e29, W29, st29⟩ := stB X28 hx hZ e28 Ar_t_29 (j := (Int32.ofNat P10)) (inb_of S_t_29 (ix_in q10 hcN)) (g := (mkF m 117 #[vi j4, vi (Int32.ofNat P0), vr t, vi j4, vi (Int32.ofNat r3), vi (Int32.ofNat P10), vi (Int32.ofNat sg)] [(.int (Int32.ofNat m10)), (.int (Int32.ofNat P10)), (.ref t)])) rfl rfl (hb hby d_jdk_33_12_117)
              have V_t_29 : Arv Z h29 t k .byte (Int32.ofNat cN) (List.set vs9 P10 (.int (nar .byte (Int32.ofNat m10)))) (.int 0) := Arv.set Ar_t_29 q_t_29 S_t_29 N_t_29 H_t_29 G_t_29 (fits_nar_byte _) W29 P10 (ofn_clamp (by omega)) (by rw [hl9]; exact q10)
              refine OEnds.st st29 ?_
              replace V_d1 := V_d1.other W29 ne_d1_t
              replace V_d2 := V_d2.other W29 ne_d2_t
              replace O0 : Ext Z.heap h29 := ext_wr O0 W29 ge_t
              replace N1 := Fr.snoc X29 N1 ge_t
              replace K0 : Keep h0 h29 [t] := K0.wr W29 (Or.inl (List.mem_of_getElem? (i := 0) rfl))
              obtain ⟨vs10, V_vs10, hl10, R10, T10'⟩ : ∃ l, Arv Z h29 t k .byte (Int32.ofNat cN) l (.int 0) ∧ l.length = cN ∧ l.drop P10 = [(.int (Int32.ofNat m10)), (.int (Int32.ofNat m9)), (.int (Int32.ofNat m8)), (.int (Int32.ofNat m7)), (.int (Int32.ofNat m6)), (.int (Int32.ofNat m5)), (.int (Int32.ofNat m4)), (.int (Int32.ofNat m3)), (.int (Int32.ofNat m2)), (.int (Int32.ofNat m1))] ++ vs.drop P0 ∧ l.take n = vs.take n := put_b V_t_29 (by omega) hl9 q10 (by omega) R9 T9' (by omega)
              refine OEnds.st (S' := T29.setTop (mkF m 120 #[vi j4, vi (Int32.ofNat P0), vr t, vi j4, vi (Int32.ofNat r3), vi (Int32.ofNat P10), vi (Int32.ofNat sg)] [(.int (Int32.ofNat P10))])) (fun _ k => ?_) ?_
              · refine XS.iload X29.here hx rfl (hb hby d_jdk_33_12_118) rfl ?_
                exact k
              exact OEnds.ret X29 hx hret hlk rfl (Or.inl ⟨rfl, by simp, _, rfl⟩) (hb hby d_jdk_33_12_120) (by decide) (by decide) (by rw [e29]; exact ⟨_, vs10, rfl, N1, K0, V_vs10, hl10, T10', by rw [by_sg1 s1, ← hm10, hbq, show n = P10 from by omega]; exact R10⟩)
-- java/lang/AbstractStringBuilder.append:(I)Ljava/lang/AbstractStringBuilder;
def Q_asbAppI (Z : State) (b : Addr) (x : Int32) (t : Addr) (k : ClassId) (cN n : Nat) (vs : List Value) (A d sg : Nat) (h0 : Heap) (v : Option Value) (h : Heap) (L : List Loc) : Prop := ∃ vs' : List Value, v = some (.ref b) ∧ Fr Z.heap.size L ∧ Keep h0 h [b, t] ∧ vs'.length = cN ∧ vs'.take n = vs.take n ∧ vs'.drop n = bys (List.replicate sg 45 ++ dgs A d) ++ vs.drop (n + d + sg) ∧ Exa Z h b "java/lang/StringBuilder" ∧ Fld Z h b "java/lang/AbstractStringBuilder" "coder" "B" (.int 0) ∧ Fld Z h b "java/lang/AbstractStringBuilder" "count" "I" (.int (Int32.ofNat (n + d + sg))) ∧ Fld Z h b "java/lang/AbstractStringBuilder" "value" "[B" (.ref t) ∧ Arv Z h t k .byte (Int32.ofNat cN) vs' (.int 0)
theorem ef_asbAppI (m : MethodId) (b : Addr) (x : Int32) : entryFrame m #[(.ref b), (.int x)] 4 = mkF m 0 #[vr b, vi x, .unset, .unset] [] := by first | (simp [entryFrame, mkF, argsToLocals, Value.category, vi, vj, vr]; done) | rfl
theorem d_jdk_68_32_0 : decode jdk_68_method_32_code 0 = .ok (.aload_n 0, 1) := by decide +kernel
theorem d_jdk_68_32_1 : decode jdk_68_method_32_code 1 = .ok (.getfield 79, 3) := by decide +kernel
theorem d_jdk_68_32_4 : decode jdk_68_method_32_code 4 = .ok (.istore_n 2, 1) := by decide +kernel
theorem d_jdk_68_32_5 : decode jdk_68_method_32_code 5 = .ok (.iload_n 2, 1) := by decide +kernel
theorem d_jdk_68_32_6 : decode jdk_68_method_32_code 6 = .ok (.iload_n 1, 1) := by decide +kernel
theorem d_jdk_68_32_7 : decode jdk_68_method_32_code 7 = .ok (.invokestatic 245, 3) := by decide +kernel
theorem d_jdk_68_32_10 : decode jdk_68_method_32_code 10 = .ok (.iadd, 1) := by decide +kernel
theorem d_jdk_68_32_11 : decode jdk_68_method_32_code 11 = .ok (.istore_n 3, 1) := by decide +kernel
theorem d_jdk_68_32_12 : decode jdk_68_method_32_code 12 = .ok (.aload_n 0, 1) := by decide +kernel
theorem d_jdk_68_32_13 : decode jdk_68_method_32_code 13 = .ok (.iload_n 3, 1) := by decide +kernel
theorem d_jdk_68_32_14 : decode jdk_68_method_32_code 14 = .ok (.invokevirtual 100, 3) := by decide +kernel
theorem d_jdk_68_32_17 : decode jdk_68_method_32_code 17 = .ok (.aload_n 0, 1) := by decide +kernel
theorem d_jdk_68_32_18 : decode jdk_68_method_32_code 18 = .ok (.invokevirtual 83, 3) := by decide +kernel
theorem pd_11 : parseMethodDescriptor "()Z" = some ⟨[], some .boolean⟩ := by decide +kernel
theorem d_jdk_68_32_21 : decode jdk_68_method_32_code 21 = .ok (.ifCond .eq 16, 3) := by decide +kernel
theorem d_jdk_68_32_24 : decode jdk_68_method_32_code 24 = .ok (.iload_n 1, 1) := by decide +kernel
theorem d_jdk_68_32_25 : decode jdk_68_method_32_code 25 = .ok (.iload_n 3, 1) := by decide +kernel
theorem d_jdk_68_32_26 : decode jdk_68_method_32_code 26 = .ok (.aload_n 0, 1) := by decide +kernel
theorem d_jdk_68_32_27 : decode jdk_68_method_32_code 27 = .ok (.getfield 15, 3) := by decide +kernel
theorem d_jdk_68_32_30 : decode jdk_68_method_32_code 30 = .ok (.invokestatic 248, 3) := by decide +kernel
theorem pd_12 : parseMethodDescriptor "(II[B)I" = some ⟨[.int, .int, (.array .byte)], some .int⟩ := by decide +kernel
theorem d_jdk_68_32_33 : decode jdk_68_method_32_code 33 = .ok (.pop, 1) := by decide +kernel
theorem d_jdk_68_32_34 : decode jdk_68_method_32_code 34 = .ok (.goto 14, 3) := by decide +kernel
theorem d_jdk_68_32_48 : decode jdk_68_method_32_code 48 = .ok (.aload_n 0, 1) := by decide +kernel
theorem d_jdk_68_32_49 : decode jdk_68_method_32_code 49 = .ok (.iload_n 3, 1) := by decide +kernel
theorem d_jdk_68_32_50 : decode jdk_68_method_32_code 50 = .ok (.putfield 79, 3) := by decide +kernel
theorem d_jdk_68_32_53 : decode jdk_68_method_32_code 53 = .ok (.aload_n 0, 1) := by decide +kernel
theorem d_jdk_68_32_54 : decode jdk_68_method_32_code 54 = .ok (.areturn, 1) := by decide +kernel
set_option maxRecDepth 65536 in
set_option maxHeartbeats 40000000 in
theorem rm_asbAppI (l : Launch) {Z : State} {a0 : Array Value} (hD : Wd Z a0) (b : Addr) (x : Int32) (t : Addr) (k : ClassId) (cN n : Nat) (vs : List Value) (A d sg : Nat) {h0 : Heap} (O0 : Ext Z.heap h0) (E_b : Exa Z h0 b "java/lang/StringBuilder") (F_coder_b : Fld Z h0 b "java/lang/AbstractStringBuilder" "coder" "B" (.int 0)) (F_count_b : Fld Z h0 b "java/lang/AbstractStringBuilder" "count" "I" (.int (Int32.ofNat n))) (F_value_b : Fld Z h0 b "java/lang/AbstractStringBuilder" "value" "[B" (.ref t)) (V_t : Arv Z h0 t k .byte (Int32.ofNat cN) vs (.int 0)) (hvs : vs.length = cN) (hcN : cN ≤ 4000) (ge_b : Z.heap.size ≤ b) (ge_t : Z.heap.size ≤ t) (ne_b_t : b ≠ t) (hroom : (n + d + sg) ≤ cN) (hDig : Dig A d) (hS : (sg = 0 ∧ ¬ x < 0 ∧ A = x.toInt.toNat) ∨ (sg = 1 ∧ x < 0 ∧ A = (-x.toInt).toNat)) (hAb : A ≤ 2147483648) (hsg : sg ≤ 1) :
    Con l Z (⟨"java/lang/AbstractStringBuilder", "append", "(I)Ljava/lang/AbstractStringBuilder;"⟩ : MethodName) jdk_68_method_32_code 4 (some (.object "java/lang/AbstractStringBuilder")) [] ({ frames := 1, cells := 0, slots := 0, locals := 18 } : Room) #[(.ref b), (.int x)] h0 (Q_asbAppI Z b x t k cN n vs A d sg h0) := by
  refine Con.walk (plainFor_of_name pn_2) ?_
  intro p e s m below meth c T0 X0 hx hZ hby hml hown hnm hret hlk e0
  obtain ⟨hw, ⟨cz, S_CS, hcz⟩, ⟨sf, S_SF, hsf⟩, ⟨d1, d2, kd1, kd2, S_D1, S_D2, V_D1, V_D2⟩⟩ := id hD
  have N0 := Fr.nil Z.heap.size
  have K0 : Keep h0 h0 [b, t] := Keep.refl _ _
  refine OEnds.cast (ef_asbAppI m b x) ?_
  have hc31 : cN < 2 ^ 31 := by omega
  refine OEnds.st (S' := T0.setTop (mkF m 1 #[vr b, vi x, .unset, .unset] [(.ref b)])) (fun _ k => ?_) ?_
  · refine XS.aloadN X0.here hx rfl (hb hby d_jdk_68_32_0) rfl rfl ?_
    exact k
  obtain ⟨T1, X1, e1, st1⟩ := getF X0 hx hZ hown (host := "") (Or.inl (wq hw 83 rfl)) Via.refl e0 F_count_b (g := (mkF m 1 #[vr b, vi x, .unset, .unset] [(.ref b)])) rfl rfl (hb hby d_jdk_68_32_1)
  refine OEnds.st st1 ?_
  refine OEnds.st (S' := T1.setTop (mkF m 7 #[vr b, vi x, vi (Int32.ofNat n), .unset] [(.int x), (.int (Int32.ofNat n))])) (fun _ k => ?_) ?_
  · refine XS.istoreN X1.here hx rfl (hb hby d_jdk_68_32_4) rfl (l' := #[vr b, vi x, vi (Int32.ofNat n), .unset]) rfl ?_
    refine XS.iloadN X1.here hx rfl (hb hby d_jdk_68_32_5) rfl ?_
    refine XS.iloadN X1.here hx rfl (hb hby d_jdk_68_32_6) rfl ?_
    exact k
  obtain ⟨_, T2, h2, L2, X2, e2, hQ2, st2⟩ := callC X1 hx hZ hown (wq hw 119 rfl) (wq hw 120 rfl) (wq hw 121 rfl) (wq hw 122 rfl) (by decide) (kc := 0) (ks := 0) (Con.sb (W := 1) (rm_strSize l hD x A sg O0 hS hAb) hZ (wq hw 122 rfl) (wq hw 121 rfl) (by decide) (by decide)) e1 (g := (mkF m 7 #[vr b, vi x, vi (Int32.ofNat n), .unset] [(.int x), (.int (Int32.ofNat n))])) rfl (by rw [hml]; rfl) (argsL := [(.int x)]) (rest := [(.int (Int32.ofNat n))]) (lenOf pd_9 rfl) rfl (by show 2 * 0 + _ ≤ _; exact Nat.le_of_eq rfl) (hb hby d_jdk_68_32_7) (by decide) (by decide)
  obtain ⟨d2, hD2, rfl, Nq2, Hq2⟩ := hQ2
  refine OEnds.st st2 ?_
  replace N0 := Fr.app N0 Nq2
  replace e2 := e2.trans Hq2
  obtain rfl := dig_uniq hDig hD2
  refine OEnds.st (S' := T2.setTop (mkF m 11 #[vr b, vi x, vi (Int32.ofNat n), .unset] [(.int ((Int32.ofNat n) + (Int32.ofNat (d + sg))))])) (fun _ k => ?_) ?_
  · refine XS.iadd X2.here hx rfl (hb hby d_jdk_68_32_10) rfl ?_
    exact k
  rw [show Int32.ofNat n + Int32.ofNat (d + sg) = Int32.ofNat (n + d + sg) from (ofn_add n (d + sg)).trans (by rw [Nat.add_assoc])]
  refine OEnds.st (S' := T2.setTop (mkF m 14 #[vr b, vi x, vi (Int32.ofNat n), vi (Int32.ofNat (n + d + sg))] [(.int (Int32.ofNat (n + d + sg))), (.ref b)])) (fun _ k => ?_) ?_
  · refine XS.istoreN X2.here hx rfl (hb hby d_jdk_68_32_11) rfl (l' := #[vr b, vi x, vi (Int32.ofNat n), vi (Int32.ofNat (n + d + sg))]) rfl ?_
    refine XS.aloadN X2.here hx rfl (hb hby d_jdk_68_32_12) rfl rfl ?_
    refine XS.iloadN X2.here hx rfl (hb hby d_jdk_68_32_13) rfl ?_
    exact k
  obtain ⟨_, T3, h3, L3, X3, e3, hQ3, st3⟩ := virtC X2 hx hZ (y := (⟨"java/lang/AbstractStringBuilder", "ensureCapacityInternal", "(I)V"⟩ : MethodName)) (z := (⟨"java/lang/AbstractStringBuilder", "ensureCapacityInternal", "(I)V"⟩ : MethodName)) hown (wq hw 85 rfl) (decl_of (wq hw 86 rfl) (wq hw 89 rfl)) (nf_sel (args := #[]) (mvT hZ (wq hw 88 rfl)) rfl) (wq hw 88 rfl) (wq hw 86 rfl) (by decide) (kc := 0) (ks := 0) (Con.sb (W := 0) (rm_ensureCap l hD b (Int32.ofNat (n + d + sg)) t k cN n vs O0 E_b F_coder_b F_count_b F_value_b V_t (ofn_sub_le hroom hc31)) hZ (wq hw 89 rfl) (wq hw 53 rfl) (by decide) (by decide)) e2 E_b (g := (mkF m 14 #[vr b, vi x, vi (Int32.ofNat n), vi (Int32.ofNat (n + d + sg))] [(.int (Int32.ofNat (n + d + sg))), (.ref b)])) rfl (by rw [hml]; rfl) (argsL := [(.int (Int32.ofNat (n + d + sg)))]) (rest := []) (lenOf pd_1 rfl) rfl (by show 2 * 0 + _ ≤ _; exact Nat.le_of_eq rfl) (hb hby d_jdk_68_32_14) (by decide) (by decide)
  obtain ⟨rfl, Nq3, Hq3⟩ := hQ3
  refine OEnds.st st3 ?_
  replace N0 := Fr.app N0 Nq3
  replace e3 := e3.trans Hq3
  refine OEnds.st (S' := T3.setTop (mkF m 18 #[vr b, vi x, vi (Int32.ofNat n), vi (Int32.ofNat (n + d + sg))] [(.ref b)])) (fun _ k => ?_) ?_
  · refine XS.aloadN X3.here hx rfl (hb hby d_jdk_68_32_17) rfl rfl ?_
    exact k
  obtain ⟨_, T4, h4, L4, X4, e4, hQ4, st4⟩ := virtC X3 hx hZ (y := (⟨"java/lang/AbstractStringBuilder", "isLatin1", "()Z"⟩ : MethodName)) (z := (⟨"java/lang/AbstractStringBuilder", "isLatin1", "()Z"⟩ : MethodName)) hown (wq hw 123 rfl) (wq hw 124 rfl) (nf_sel (args := #[]) (mvT hZ (wq hw 88 rfl)) rfl) (wq hw 126 rfl) (wq hw 125 rfl) (by decide) (kc := 0) (ks := 0) (Con.sb (W := 0) (rm_isLat l hD b O0 F_coder_b) hZ (wq hw 127 rfl) (wq hw 53 rfl) (by decide) (by decide)) e3 E_b (g := (mkF m 18 #[vr b, vi x, vi (Int32.ofNat n), vi (Int32.ofNat (n + d + sg))] [(.ref b)])) rfl (by rw [hml]; rfl) (argsL := []) (rest := []) (lenOf pd_11 rfl) rfl (by show 2 * 0 + _ ≤ _; exact Nat.le_of_eq rfl) (hb hby d_jdk_68_32_18) (by decide) (by decide)
  obtain ⟨rfl, Nq4, Hq4⟩ := hQ4
  refine OEnds.st st4 ?_
  replace N0 := Fr.app N0 Nq4
  replace e4 := e4.trans Hq4
  refine OEnds.st (S' := T4.setTop (mkF m 27 #[vr b, vi x, vi (Int32.ofNat n), vi (Int32.ofNat (n + d + sg))] [(.ref b), (.int (Int32.ofNat (n + d + sg))), (.int x)])) (fun _ k => ?_) ?_
  · refine XS.ifNo X4.here hx rfl (hb hby d_jdk_68_32_21) rfl ((if0 _ _).trans (feq (by decide)).1) ?_
    refine XS.iloadN X4.here hx rfl (hb hby d_jdk_68_32_24) rfl ?_
    refine XS.iloadN X4.here hx rfl (hb hby d_jdk_68_32_25) rfl ?_
    refine XS.aloadN X4.here hx rfl (hb hby d_jdk_68_32_26) rfl rfl ?_
    exact k
  obtain ⟨T5, X5, e5, st5⟩ := getF X4 hx hZ hown (host := "") (Or.inl (wq hw 57 rfl)) Via.refl e4 F_value_b (g := (mkF m 27 #[vr b, vi x, vi (Int32.ofNat n), vi (Int32.ofNat (n + d + sg))] [(.ref b), (.int (Int32.ofNat (n + d + sg))), (.int x)])) rfl rfl (hb hby d_jdk_68_32_27)
  refine OEnds.st st5 ?_
  obtain ⟨_, T6, h6, L6, X6, e6, hQ6, st6⟩ := callC X5 hx hZ hown (wq hw 128 rfl) (wq hw 129 rfl) (wq hw 121 rfl) (wq hw 130 rfl) (by decide) (kc := 0) (ks := 0) (Con.sb (W := 0) (rm_getCh l hD x t k (n + d + sg) cN n d A sg vs O0 V_t hvs hcN hroom ge_t rfl hDig hS hAb hsg) hZ (wq hw 130 rfl) (wq hw 121 rfl) (by decide) (by decide)) e5 (g := (mkF m 30 #[vr b, vi x, vi (Int32.ofNat n), vi (Int32.ofNat (n + d + sg))] [(.ref t), (.int (Int32.ofNat (n + d + sg))), (.int x)])) rfl (by rw [hml]; rfl) (argsL := [(.int x), (.int (Int32.ofNat (n + d + sg))), (.ref t)]) (rest := []) (lenOf pd_12 rfl) rfl (by show 2 * 0 + _ ≤ _; exact Nat.le_of_eq rfl) (hb hby d_jdk_68_32_30) (by decide) (by decide)
  obtain ⟨r6, vs6, rfl, Nq6, Kq6, V6, hl6, tt6, dr6⟩ := hQ6
  refine OEnds.st st6 ?_
  replace N0 := Fr.app N0 Nq6
  replace E_b := E_b.keep Kq6
  replace F_coder_b := F_coder_b.keep Kq6 (ninS ne_b_t nin0)
  replace F_count_b := F_count_b.keep Kq6 (ninS ne_b_t nin0)
  replace F_value_b := F_value_b.keep Kq6 (ninS ne_b_t nin0)
  replace O0 : Ext Z.heap h6 := ext_keep O0 Kq6 (allS ge_t all0)
  replace K0 : Keep h0 h6 [b, t] := K0.trans Kq6 (allS (Or.inl (List.mem_of_getElem? (i := 1) rfl)) all0)
  refine OEnds.st (S' := T6.setTop (mkF m 50 #[vr b, vi x, vi (Int32.ofNat n), vi (Int32.ofNat (n + d + sg))] [(.int (Int32.ofNat (n + d + sg))), (.ref b)])) (fun _ k => ?_) ?_
  · refine XS.pop X6.here hx rfl (hb hby d_jdk_68_32_33) rfl rfl ?_
    refine XS.goto X6.here hx rfl (pc0 := 34) (pc' := 48) rfl (hb hby d_jdk_68_32_34) (by decide) (by decide) ?_
    refine XS.aloadN X6.here hx rfl (hb hby d_jdk_68_32_48) rfl rfl ?_
    refine XS.iloadN X6.here hx rfl (hb hby d_jdk_68_32_49) rfl ?_
    exact k
  obtain ⟨T7, h7, X7, e7, W7, st7⟩ := putF X6 hx hZ hown (host := "") (Or.inl (wq hw 83 rfl)) Via.refl e6 F_count_b E_b (Or.inl (wq hw 84 rfl)) (wq hw 44 rfl) (ty := .int) (by decide) rfl rfl (g := (mkF m 50 #[vr b, vi x, vi (Int32.ofNat n), vi (Int32.ofNat (n + d + sg))] [(.int (Int32.ofNat (n + d + sg))), (.ref b)])) rfl rfl (hb hby d_jdk_68_32_50)
  refine OEnds.st st7 ?_
  replace E_b := E_b.wr W7
  replace F_coder_b := F_coder_b.other W7 (Or.inr (slot_ne (Or.inl (wq hw 60 rfl)) (Or.inl (wq hw 84 rfl)) (by decide) (t := .byte) (t' := .int) (by decide) (by decide)))
  replace F_count_b := F_count_b.same W7
  replace F_value_b := F_value_b.other W7 (Or.inr (slot_ne (Or.inl (wq hw 58 rfl)) (Or.inl (wq hw 84 rfl)) (by decide) (t := (.array .byte)) (t' := .int) (by decide) (by decide)))
  replace V6 := V6.other W7 (Ne.symm ne_b_t)
  replace O0 : Ext Z.heap h7 := ext_wr O0 W7 ge_b
  replace N0 := Fr.snoc X7 N0 ge_b
  replace K0 : Keep h0 h7 [b, t] := K0.wr W7 (Or.inl (List.mem_of_getElem? (i := 0) rfl))
  refine OEnds.st (S' := T7.setTop (mkF m 54 #[vr b, vi x, vi (Int32.ofNat n), vi (Int32.ofNat (n + d + sg))] [(.ref b)])) (fun _ k => ?_) ?_
  · refine XS.aloadN X7.here hx rfl (hb hby d_jdk_68_32_53) rfl rfl ?_
    exact k
  exact OEnds.ret X7 hx hret hlk rfl (Or.inr (Or.inr (Or.inr (Or.inr ⟨rfl, rfl, rfl⟩)))) (hb hby d_jdk_68_32_54) (by decide) (by decide) (by rw [e7]; exact ⟨vs6, rfl, N0, K0, hl6, tt6, dr6, E_b, F_coder_b, F_count_b, F_value_b, V6⟩)
-- java/lang/StringBuilder.append:(I)Ljava/lang/StringBuilder;
def Q_sbAppI (Z : State) (b : Addr) (x : Int32) (t : Addr) (k : ClassId) (cN n : Nat) (vs : List Value) (A d sg : Nat) (h0 : Heap) (v : Option Value) (h : Heap) (L : List Loc) : Prop := ∃ vs' : List Value, v = some (.ref b) ∧ Fr Z.heap.size L ∧ Keep h0 h [b, t] ∧ vs'.length = cN ∧ vs'.take n = vs.take n ∧ vs'.drop n = bys (List.replicate sg 45 ++ dgs A d) ++ vs.drop (n + d + sg) ∧ Exa Z h b "java/lang/StringBuilder" ∧ Fld Z h b "java/lang/AbstractStringBuilder" "coder" "B" (.int 0) ∧ Fld Z h b "java/lang/AbstractStringBuilder" "count" "I" (.int (Int32.ofNat (n + d + sg))) ∧ Fld Z h b "java/lang/AbstractStringBuilder" "value" "[B" (.ref t) ∧ Arv Z h t k .byte (Int32.ofNat cN) vs' (.int 0)
theorem ef_sbAppI (m : MethodId) (b : Addr) (x : Int32) : entryFrame m #[(.ref b), (.int x)] 2 = mkF m 0 #[vr b, vi x] [] := by first | (simp [entryFrame, mkF, argsToLocals, Value.category, vi, vj, vr]; done) | rfl
theorem d_jdk_67_15_0 : decode jdk_67_method_15_code 0 = .ok (.aload_n 0, 1) := by decide +kernel
theorem d_jdk_67_15_1 : decode jdk_67_method_15_code 1 = .ok (.iload_n 1, 1) := by decide +kernel
theorem d_jdk_67_15_2 : decode jdk_67_method_15_code 2 = .ok (.invokespecial 53, 3) := by decide +kernel
theorem pd_13 : parseMethodDescriptor "(I)Ljava/lang/AbstractStringBuilder;" = some ⟨[.int], some (.object "java/lang/AbstractStringBuilder")⟩ := by decide +kernel
theorem d_jdk_67_15_5 : decode jdk_67_method_15_code 5 = .ok (.pop, 1) := by decide +kernel
theorem d_jdk_67_15_6 : decode jdk_67_method_15_code 6 = .ok (.aload_n 0, 1) := by decide +kernel
theorem d_jdk_67_15_7 : decode jdk_67_method_15_code 7 = .ok (.areturn, 1) := by decide +kernel
set_option maxRecDepth 65536 in
set_option maxHeartbeats 40000000 in
theorem rm_sbAppI (l : Launch) {Z : State} {a0 : Array Value} (hD : Wd Z a0) (b : Addr) (x : Int32) (t : Addr) (k : ClassId) (cN n : Nat) (vs : List Value) (A d sg : Nat) {h0 : Heap} (O0 : Ext Z.heap h0) (E_b : Exa Z h0 b "java/lang/StringBuilder") (F_coder_b : Fld Z h0 b "java/lang/AbstractStringBuilder" "coder" "B" (.int 0)) (F_count_b : Fld Z h0 b "java/lang/AbstractStringBuilder" "count" "I" (.int (Int32.ofNat n))) (F_value_b : Fld Z h0 b "java/lang/AbstractStringBuilder" "value" "[B" (.ref t)) (V_t : Arv Z h0 t k .byte (Int32.ofNat cN) vs (.int 0)) (hvs : vs.length = cN) (hcN : cN ≤ 4000) (ge_b : Z.heap.size ≤ b) (ge_t : Z.heap.size ≤ t) (ne_b_t : b ≠ t) (hroom : (n + d + sg) ≤ cN) (hDig : Dig A d) (hS : (sg = 0 ∧ ¬ x < 0 ∧ A = x.toInt.toNat) ∨ (sg = 1 ∧ x < 0 ∧ A = (-x.toInt).toNat)) (hAb : A ≤ 2147483648) (hsg : sg ≤ 1) :
    Con l Z (⟨"java/lang/StringBuilder", "append", "(I)Ljava/lang/StringBuilder;"⟩ : MethodName) jdk_67_method_15_code 2 (some (.object "java/lang/StringBuilder")) [] ({ frames := 2, cells := 0, slots := 0, locals := 33 } : Room) #[(.ref b), (.int x)] h0 (Q_sbAppI Z b x t k cN n vs A d sg h0) := by
  refine Con.walk (plainFor_of_name pn_3) ?_
  intro p e s m below meth c T0 X0 hx hZ hby hml hown hnm hret hlk e0
  obtain ⟨hw, ⟨cz, S_CS, hcz⟩, ⟨sf, S_SF, hsf⟩, ⟨d1, d2, kd1, kd2, S_D1, S_D2, V_D1, V_D2⟩⟩ := id hD
  have N0 := Fr.nil Z.heap.size
  have K0 : Keep h0 h0 [b, t] := Keep.refl _ _
  refine OEnds.cast (ef_sbAppI m b x) ?_
  refine OEnds.st (S' := T0.setTop (mkF m 2 #[vr b, vi x] [(.int x), (.ref b)])) (fun _ k => ?_) ?_
  · refine XS.aloadN X0.here hx rfl (hb hby d_jdk_67_15_0) rfl rfl ?_
    refine XS.iloadN X0.here hx rfl (hb hby d_jdk_67_15_1) rfl ?_
    exact k
  obtain ⟨_, T1, h1, L1, X1, e1, hQ1, st1⟩ := superC X0 hx hZ (y := (⟨"java/lang/AbstractStringBuilder", "append", "(I)Ljava/lang/AbstractStringBuilder;"⟩ : MethodName)) hown (wq hw 115 rfl) (same_of (nf_sel (args := a0) (wq hw 88 rfl) rfl) (wq hw 116 rfl) (by decide)) (wq hw 116 rfl) (wq hw 69 rfl) (wq hw 118 rfl) (by decide) (kc := 0) (ks := 0) (Con.sb (W := 0) (rm_asbAppI l hD b x t k cN n vs A d sg O0 E_b F_coder_b F_count_b F_value_b V_t hvs hcN ge_b ge_t ne_b_t hroom hDig hS hAb hsg) hZ (wq hw 118 rfl) (wq hw 53 rfl) (by decide) (by decide)) e0 E_b (g := (mkF m 2 #[vr b, vi x] [(.int x), (.ref b)])) rfl (by rw [hml]; rfl) (argsL := [(.int x)]) (rest := []) (lenOf pd_13 rfl) rfl (by show 2 * 0 + _ ≤ _; exact Nat.le_of_eq rfl) (hb hby d_jdk_67_15_2) (by decide) (by decide)
  obtain ⟨vs1, rfl, Nq1, Kq1, hl1, tt1, dr1, Eq1, Fc1, Fn1, Fv1, V1⟩ := hQ1
  refine OEnds.st st1 ?_
  replace N0 := Fr.app N0 Nq1
  replace E_b := E_b.keep Kq1
  replace O0 : Ext Z.heap h1 := ext_keep O0 Kq1 (allS ge_b (allS ge_t all0))
  replace K0 : Keep h0 h1 [b, t] := K0.trans Kq1 (allS (Or.inl (List.mem_of_getElem? (i := 0) rfl)) (allS (Or.inl (List.mem_of_getElem? (i := 1) rfl)) all0))
  refine OEnds.st (S' := T1.setTop (mkF m 7 #[vr b, vi x] [(.ref b)])) (fun _ k => ?_) ?_
  · refine XS.pop X1.here hx rfl (hb hby d_jdk_67_15_5) rfl rfl ?_
    refine XS.aloadN X1.here hx rfl (hb hby d_jdk_67_15_6) rfl rfl ?_
    exact k
  exact OEnds.ret X1 hx hret hlk rfl (Or.inr (Or.inr (Or.inr (Or.inr ⟨rfl, rfl, rfl⟩)))) (hb hby d_jdk_67_15_7) (by decide) (by decide) (by rw [e1]; exact ⟨vs1, rfl, N0, K0, hl1, tt1, dr1, E_b, Fc1, Fn1, Fv1, V1⟩)
-- java/lang/AbstractStringBuilder.append:(I)Ljava/lang/AbstractStringBuilder;
def Q_asbAppIG (Z : State) (b : Addr) (x : Int32) (t : Addr) (k : ClassId) (n : Nat) (vs : List Value) (A d sg : Nat) (h0 : Heap) (v : Option Value) (h : Heap) (L : List Loc) : Prop := ∃ (r : Addr) (kr : ClassId) (vs' : List Value), v = some (.ref b) ∧ Fr Z.heap.size L ∧ Keep h0 h [b] ∧ h0.size ≤ r ∧ vs'.length = 34 ∧ vs'.take n = (vs ++ z18).take n ∧ vs'.drop n = bys (List.replicate sg 45 ++ dgs A d) ++ (vs ++ z18).drop (n + d + sg) ∧ Exa Z h b "java/lang/StringBuilder" ∧ Fld Z h b "java/lang/AbstractStringBuilder" "coder" "B" (.int 0) ∧ Fld Z h b "java/lang/AbstractStringBuilder" "count" "I" (.int (Int32.ofNat (n + d + sg))) ∧ Fld Z h b "java/lang/AbstractStringBuilder" "value" "[B" (.ref r) ∧ Arv Z h r kr .byte (Int32.ofNat 34) vs' (.int 0)
theorem ef_asbAppIG (m : MethodId) (b : Addr) (x : Int32) : entryFrame m #[(.ref b), (.int x)] 4 = mkF m 0 #[vr b, vi x, .unset, .unset] [] := by first | (simp [entryFrame, mkF, argsToLocals, Value.category, vi, vj, vr]; done) | rfl
set_option maxRecDepth 65536 in
set_option maxHeartbeats 40000000 in
theorem rm_asbAppIG (l : Launch) {Z : State} {a0 : Array Value} (hD : Wd Z a0) (b : Addr) (x : Int32) (t : Addr) (k : ClassId) (n : Nat) (vs : List Value) (A d sg : Nat) {h0 : Heap} (O0 : Ext Z.heap h0) (E_b : Exa Z h0 b "java/lang/StringBuilder") (F_coder_b : Fld Z h0 b "java/lang/AbstractStringBuilder" "coder" "B" (.int 0)) (F_count_b : Fld Z h0 b "java/lang/AbstractStringBuilder" "count" "I" (.int (Int32.ofNat n))) (F_value_b : Fld Z h0 b "java/lang/AbstractStringBuilder" "value" "[B" (.ref t)) (V_t : Arv Z h0 t k .byte (Int32.ofNat 16) vs (.int 0)) (hvs : vs.length = 16) (hmn : 16 < (n + d + sg)) (hmn2 : (n + d + sg) ≤ 33) (ge_b : Z.heap.size ≤ b) (hDig : Dig A d) (hS : (sg = 0 ∧ ¬ x < 0 ∧ A = x.toInt.toNat) ∨ (sg = 1 ∧ x < 0 ∧ A = (-x.toInt).toNat)) (hAb : A ≤ 2147483648) (hsg : sg ≤ 1) :
    Con l Z (⟨"java/lang/AbstractStringBuilder", "append", "(I)Ljava/lang/AbstractStringBuilder;"⟩ : MethodName) jdk_68_method_32_code 4 (some (.object "java/lang/AbstractStringBuilder")) [] ({ frames := 4, cells := 1, slots := 34, locals := 62 } : Room) #[(.ref b), (.int x)] h0 (Q_asbAppIG Z b x t k n vs A d sg h0) := by
  refine Con.walk (plainFor_of_name pn_2) ?_
  intro p e s m below meth c T0 X0 hx hZ hby hml hown hnm hret hlk e0
  obtain ⟨hw, ⟨cz, S_CS, hcz⟩, ⟨sf, S_SF, hsf⟩, ⟨d1, d2, kd1, kd2, S_D1, S_D2, V_D1, V_D2⟩⟩ := id hD
  have N0 := Fr.nil Z.heap.size
  have K0 : Keep h0 h0 [b] := Keep.refl _ _
  refine OEnds.cast (ef_asbAppIG m b x) ?_
  have hvg : (vs ++ z18).length = 34 := by simp [z18, hvs]
  refine OEnds.st (S' := T0.setTop (mkF m 1 #[vr b, vi x, .unset, .unset] [(.ref b)])) (fun _ k => ?_) ?_
  · refine XS.aloadN X0.here hx rfl (hb hby d_jdk_68_32_0) rfl rfl ?_
    exact k
  obtain ⟨T1, X1, e1, st1⟩ := getF X0 hx hZ hown (host := "") (Or.inl (wq hw 83 rfl)) Via.refl e0 F_count_b (g := (mkF m 1 #[vr b, vi x, .unset, .unset] [(.ref b)])) rfl rfl (hb hby d_jdk_68_32_1)
  refine OEnds.st st1 ?_
  refine OEnds.st (S' := T1.setTop (mkF m 7 #[vr b, vi x, vi (Int32.ofNat n), .unset] [(.int x), (.int (Int32.ofNat n))])) (fun _ k => ?_) ?_
  · refine XS.istoreN X1.here hx rfl (hb hby d_jdk_68_32_4) rfl (l' := #[vr b, vi x, vi (Int32.ofNat n), .unset]) rfl ?_
    refine XS.iloadN X1.here hx rfl (hb hby d_jdk_68_32_5) rfl ?_
    refine XS.iloadN X1.here hx rfl (hb hby d_jdk_68_32_6) rfl ?_
    exact k
  obtain ⟨_, T2, h2, L2, X2, e2, hQ2, st2⟩ := callC X1 hx hZ hown (wq hw 119 rfl) (wq hw 120 rfl) (wq hw 121 rfl) (wq hw 122 rfl) (by decide) (kc := 0) (ks := 0) (Con.sb (W := 1) (rm_strSize l hD x A sg O0 hS hAb) hZ (wq hw 122 rfl) (wq hw 121 rfl) (by decide) (by decide)) e1 (g := (mkF m 7 #[vr b, vi x, vi (Int32.ofNat n), .unset] [(.int x), (.int (Int32.ofNat n))])) rfl (by rw [hml]; rfl) (argsL := [(.int x)]) (rest := [(.int (Int32.ofNat n))]) (lenOf pd_9 rfl) rfl (by show 2 * 0 + _ ≤ _; exact Nat.le_of_eq rfl) (hb hby d_jdk_68_32_7) (by decide) (by decide)
  obtain ⟨d2, hD2, rfl, Nq2, Hq2⟩ := hQ2
  refine OEnds.st st2 ?_
  replace N0 := Fr.app N0 Nq2
  replace e2 := e2.trans Hq2
  obtain rfl := dig_uniq hDig hD2
  refine OEnds.st (S' := T2.setTop (mkF m 11 #[vr b, vi x, vi (Int32.ofNat n), .unset] [(.int ((Int32.ofNat n) + (Int32.ofNat (d + sg))))])) (fun _ k => ?_) ?_
  · refine XS.iadd X2.here hx rfl (hb hby d_jdk_68_32_10) rfl ?_
    exact k
  rw [show Int32.ofNat n + Int32.ofNat (d + sg) = Int32.ofNat (n + d + sg) from (ofn_add n (d + sg)).trans (by rw [Nat.add_assoc])]
  refine OEnds.st (S' := T2.setTop (mkF m 14 #[vr b, vi x, vi (Int32.ofNat n), vi (Int32.ofNat (n + d + sg))] [(.int (Int32.ofNat (n + d + sg))), (.ref b)])) (fun _ k => ?_) ?_
  · refine XS.istoreN X2.here hx rfl (hb hby d_jdk_68_32_11) rfl (l' := #[vr b, vi x, vi (Int32.ofNat n), vi (Int32.ofNat (n + d + sg))]) rfl ?_
    refine XS.aloadN X2.here hx rfl (hb hby d_jdk_68_32_12) rfl rfl ?_
    refine XS.iloadN X2.here hx rfl (hb hby d_jdk_68_32_13) rfl ?_
    exact k
  obtain ⟨_, T3, h3, L3, X3, e3, hQ3, st3⟩ := virtC X2 hx hZ (y := (⟨"java/lang/AbstractStringBuilder", "ensureCapacityInternal", "(I)V"⟩ : MethodName)) (z := (⟨"java/lang/AbstractStringBuilder", "ensureCapacityInternal", "(I)V"⟩ : MethodName)) hown (wq hw 85 rfl) (decl_of (wq hw 86 rfl) (wq hw 89 rfl)) (nf_sel (args := #[]) (mvT hZ (wq hw 88 rfl)) rfl) (wq hw 88 rfl) (wq hw 86 rfl) (by decide) (kc := 1) (ks := 34) (Con.sb (W := 0) (rm_ensureG l hD b (n + d + sg) t k n vs O0 E_b F_coder_b F_count_b F_value_b V_t hvs hmn hmn2 ge_b) hZ (wq hw 89 rfl) (wq hw 53 rfl) (by decide) (by decide)) e2 E_b (g := (mkF m 14 #[vr b, vi x, vi (Int32.ofNat n), vi (Int32.ofNat (n + d + sg))] [(.int (Int32.ofNat (n + d + sg))), (.ref b)])) rfl (by rw [hml]; rfl) (argsL := [(.int (Int32.ofNat (n + d + sg)))]) (rest := []) (lenOf pd_1 rfl) rfl (by show 2 * 0 + _ ≤ _; exact Nat.le_of_eq rfl) (hb hby d_jdk_68_32_14) (by decide) (by decide)
  obtain ⟨r3, kr3, rfl, Nq3, Kq3, szq3, Eq3, Fc3, Fn3, Fv3, V3⟩ := hQ3
  refine OEnds.st st3 ?_
  replace N0 := Fr.app N0 Nq3
  have ne_b_r3 : b ≠ r3 := Nat.ne_of_lt (Nat.lt_of_lt_of_le E_b.lt szq3)
  have ne_t_r3 : t ≠ r3 := Nat.ne_of_lt (Nat.lt_of_lt_of_le V_t.lt szq3)
  have ge_r3 : Z.heap.size ≤ r3 := Nat.le_trans O0.1 szq3
  have sz_r3 : h0.size ≤ r3 := Nat.le_trans K0.1 szq3
  have ne_t_b : t ≠ b := Ne.symm (ne_arv E_b (wq hw 44 rfl) V_t)
  replace E_b := E_b.keep Kq3
  replace V_t := V_t.keep Kq3 (ninS ne_t_b nin0)
  replace O0 : Ext Z.heap h3 := ext_keep O0 Kq3 (allS ge_b all0)
  replace K0 : Keep h0 h3 [b] := K0.trans Kq3 (allS (Or.inl (List.mem_of_getElem? (i := 0) rfl)) all0)
  refine OEnds.st (S' := T3.setTop (mkF m 18 #[vr b, vi x, vi (Int32.ofNat n), vi (Int32.ofNat (n + d + sg))] [(.ref b)])) (fun _ k => ?_) ?_
  · refine XS.aloadN X3.here hx rfl (hb hby d_jdk_68_32_17) rfl rfl ?_
    exact k
  obtain ⟨_, T4, h4, L4, X4, e4, hQ4, st4⟩ := virtC X3 hx hZ (y := (⟨"java/lang/AbstractStringBuilder", "isLatin1", "()Z"⟩ : MethodName)) (z := (⟨"java/lang/AbstractStringBuilder", "isLatin1", "()Z"⟩ : MethodName)) hown (wq hw 123 rfl) (wq hw 124 rfl) (nf_sel (args := #[]) (mvT hZ (wq hw 88 rfl)) rfl) (wq hw 126 rfl) (wq hw 125 rfl) (by decide) (kc := 0) (ks := 0) (Con.sb (W := 0) (rm_isLat l hD b O0 Fc3) hZ (wq hw 127 rfl) (wq hw 53 rfl) (by decide) (by decide)) e3 E_b (g := (mkF m 18 #[vr b, vi x, vi (Int32.ofNat n), vi (Int32.ofNat (n + d + sg))] [(.ref b)])) rfl (by rw [hml]; rfl) (argsL := []) (rest := []) (lenOf pd_11 rfl) rfl (by show 2 * 0 + _ ≤ _; exact Nat.le_of_eq rfl) (hb hby d_jdk_68_32_18) (by decide) (by decide)
  obtain ⟨rfl, Nq4, Hq4⟩ := hQ4
  refine OEnds.st st4 ?_
  replace N0 := Fr.app N0 Nq4
  replace e4 := e4.trans Hq4
  refine OEnds.st (S' := T4.setTop (mkF m 27 #[vr b, vi x, vi (Int32.ofNat n), vi (Int32.ofNat (n + d + sg))] [(.ref b), (.int (Int32.ofNat (n + d + sg))), (.int x)])) (fun _ k => ?_) ?_
  · refine XS.ifNo X4.here hx rfl (hb hby d_jdk_68_32_21) rfl ((if0 _ _).trans (feq (by decide)).1) ?_
    refine XS.iloadN X4.here hx rfl (hb hby d_jdk_68_32_24) rfl ?_
    refine XS.iloadN X4.here hx rfl (hb hby d_jdk_68_32_25) rfl ?_
    refine XS.aloadN X4.here hx rfl (hb hby d_jdk_68_32_26) rfl rfl ?_
    exact k
  obtain ⟨T5, X5, e5, st5⟩ := getF X4 hx hZ hown (host := "") (Or.inl (wq hw 57 rfl)) Via.refl e4 Fv3 (g := (mkF m 27 #[vr b, vi x, vi (Int32.ofNat n), vi (Int32.ofNat (n + d + sg))] [(.ref b), (.int (Int32.ofNat (n + d + sg))), (.int x)])) rfl rfl (hb hby d_jdk_68_32_27)
  refine OEnds.st st5 ?_
  obtain ⟨_, T6, h6, L6, X6, e6, hQ6, st6⟩ := callC X5 hx hZ hown (wq hw 128 rfl) (wq hw 129 rfl) (wq hw 121 rfl) (wq hw 130 rfl) (by decide) (kc := 0) (ks := 0) (Con.sb (W := 0) (rm_getCh l hD x r3 kr3 (n + d + sg) 34 n d A sg (vs ++ z18) O0 V3 hvg (by decide) (by omega) ge_r3 rfl hDig hS hAb hsg) hZ (wq hw 130 rfl) (wq hw 121 rfl) (by decide) (by decide)) e5 (g := (mkF m 30 #[vr b, vi x, vi (Int32.ofNat n), vi (Int32.ofNat (n + d + sg))] [(.ref r3), (.int (Int32.ofNat (n + d + sg))), (.int x)])) rfl (by rw [hml]; rfl) (argsL := [(.int x), (.int (Int32.ofNat (n + d + sg))), (.ref r3)]) (rest := []) (lenOf pd_12 rfl) rfl (by show 2 * 0 + _ ≤ _; exact Nat.le_of_eq rfl) (hb hby d_jdk_68_32_30) (by decide) (by decide)
  obtain ⟨rr6, vs6, rfl, Nq6, Kq6, V6, hl6, tt6, dr6⟩ := hQ6
  refine OEnds.st st6 ?_
  replace N0 := Fr.app N0 Nq6
  replace E_b := E_b.keep Kq6
  replace V_t := V_t.keep Kq6 (ninS ne_t_r3 nin0)
  replace Fc3 := Fc3.keep Kq6 (ninS ne_b_r3 nin0)
  replace Fn3 := Fn3.keep Kq6 (ninS ne_b_r3 nin0)
  replace Fv3 := Fv3.keep Kq6 (ninS ne_b_r3 nin0)
  replace O0 : Ext Z.heap h6 := ext_keep O0 Kq6 (allS ge_r3 all0)
  replace K0 : Keep h0 h6 [b] := K0.trans Kq6 (allS (Or.inr sz_r3) all0)
  refine OEnds.st (S' := T6.setTop (mkF m 50 #[vr b, vi x, vi (Int32.ofNat n), vi (Int32.ofNat (n + d + sg))] [(.int (Int32.ofNat (n + d + sg))), (.ref b)])) (fun _ k => ?_) ?_
  · refine XS.pop X6.here hx rfl (hb hby d_jdk_68_32_33) rfl rfl ?_
    refine XS.goto X6.here hx rfl (pc0 := 34) (pc' := 48) rfl (hb hby d_jdk_68_32_34) (by decide) (by decide) ?_
    refine XS.aloadN X6.here hx rfl (hb hby d_jdk_68_32_48) rfl rfl ?_
    refine XS.iloadN X6.here hx rfl (hb hby d_jdk_68_32_49) rfl ?_
    exact k
  obtain ⟨T7, h7, X7, e7, W7, st7⟩ := putF X6 hx hZ hown (host := "") (Or.inl (wq hw 83 rfl)) Via.refl e6 Fn3 E_b (Or.inl (wq hw 84 rfl)) (wq hw 44 rfl) (ty := .int) (by decide) rfl rfl (g := (mkF m 50 #[vr b, vi x, vi (Int32.ofNat n), vi (Int32.ofNat (n + d + sg))] [(.int (Int32.ofNat (n + d + sg))), (.ref b)])) rfl rfl (hb hby d_jdk_68_32_50)
  refine OEnds.st st7 ?_
  replace E_b := E_b.wr W7
  replace V_t := V_t.other W7 ne_t_b
  replace Fc3 := Fc3.other W7 (Or.inr (slot_ne (Or.inl (wq hw 60 rfl)) (Or.inl (wq hw 84 rfl)) (by decide) (t := .byte) (t' := .int) (by decide) (by decide)))
  replace Fn3 := Fn3.same W7
  replace Fv3 := Fv3.other W7 (Or.inr (slot_ne (Or.inl (wq hw 58 rfl)) (Or.inl (wq hw 84 rfl)) (by decide) (t := (.array .byte)) (t' := .int) (by decide) (by decide)))
  replace V6 := V6.other W7 (Ne.symm ne_b_r3)
  replace O0 : Ext Z.heap h7 := ext_wr O0 W7 ge_b
  replace N0 := Fr.snoc X7 N0 ge_b
  replace K0 : Keep h0 h7 [b] := K0.wr W7 (Or.inl (List.mem_of_getElem? (i := 0) rfl))
  refine OEnds.st (S' := T7.setTop (mkF m 54 #[vr b, vi x, vi (Int32.ofNat n), vi (Int32.ofNat (n + d + sg))] [(.ref b)])) (fun _ k => ?_) ?_
  · refine XS.aloadN X7.here hx rfl (hb hby d_jdk_68_32_53) rfl rfl ?_
    exact k
  exact OEnds.ret X7 hx hret hlk rfl (Or.inr (Or.inr (Or.inr (Or.inr ⟨rfl, rfl, rfl⟩)))) (hb hby d_jdk_68_32_54) (by decide) (by decide) (by rw [e7]; exact ⟨r3, _, vs6, rfl, N0, K0, sz_r3, hl6, tt6, dr6, E_b, Fc3, Fn3, Fv3, V6⟩)
-- java/lang/StringBuilder.append:(I)Ljava/lang/StringBuilder;
def Q_sbAppIG (Z : State) (b : Addr) (x : Int32) (t : Addr) (k : ClassId) (n : Nat) (vs : List Value) (A d sg : Nat) (h0 : Heap) (v : Option Value) (h : Heap) (L : List Loc) : Prop := ∃ (r : Addr) (kr : ClassId) (vs' : List Value), v = some (.ref b) ∧ Fr Z.heap.size L ∧ Keep h0 h [b] ∧ h0.size ≤ r ∧ vs'.length = 34 ∧ vs'.take n = (vs ++ z18).take n ∧ vs'.drop n = bys (List.replicate sg 45 ++ dgs A d) ++ (vs ++ z18).drop (n + d + sg) ∧ Exa Z h b "java/lang/StringBuilder" ∧ Fld Z h b "java/lang/AbstractStringBuilder" "coder" "B" (.int 0) ∧ Fld Z h b "java/lang/AbstractStringBuilder" "count" "I" (.int (Int32.ofNat (n + d + sg))) ∧ Fld Z h b "java/lang/AbstractStringBuilder" "value" "[B" (.ref r) ∧ Arv Z h r kr .byte (Int32.ofNat 34) vs' (.int 0)
theorem ef_sbAppIG (m : MethodId) (b : Addr) (x : Int32) : entryFrame m #[(.ref b), (.int x)] 2 = mkF m 0 #[vr b, vi x] [] := by first | (simp [entryFrame, mkF, argsToLocals, Value.category, vi, vj, vr]; done) | rfl
set_option maxRecDepth 65536 in
set_option maxHeartbeats 40000000 in
theorem rm_sbAppIG (l : Launch) {Z : State} {a0 : Array Value} (hD : Wd Z a0) (b : Addr) (x : Int32) (t : Addr) (k : ClassId) (n : Nat) (vs : List Value) (A d sg : Nat) {h0 : Heap} (O0 : Ext Z.heap h0) (E_b : Exa Z h0 b "java/lang/StringBuilder") (F_coder_b : Fld Z h0 b "java/lang/AbstractStringBuilder" "coder" "B" (.int 0)) (F_count_b : Fld Z h0 b "java/lang/AbstractStringBuilder" "count" "I" (.int (Int32.ofNat n))) (F_value_b : Fld Z h0 b "java/lang/AbstractStringBuilder" "value" "[B" (.ref t)) (V_t : Arv Z h0 t k .byte (Int32.ofNat 16) vs (.int 0)) (hvs : vs.length = 16) (hmn : 16 < (n + d + sg)) (hmn2 : (n + d + sg) ≤ 33) (ge_b : Z.heap.size ≤ b) (hDig : Dig A d) (hS : (sg = 0 ∧ ¬ x < 0 ∧ A = x.toInt.toNat) ∨ (sg = 1 ∧ x < 0 ∧ A = (-x.toInt).toNat)) (hAb : A ≤ 2147483648) (hsg : sg ≤ 1) :
    Con l Z (⟨"java/lang/StringBuilder", "append", "(I)Ljava/lang/StringBuilder;"⟩ : MethodName) jdk_67_method_15_code 2 (some (.object "java/lang/StringBuilder")) [] ({ frames := 5, cells := 1, slots := 34, locals := 77 } : Room) #[(.ref b), (.int x)] h0 (Q_sbAppIG Z b x t k n vs A d sg h0) := by
  refine Con.walk (plainFor_of_name pn_3) ?_
  intro p e s m below meth c T0 X0 hx hZ hby hml hown hnm hret hlk e0
  obtain ⟨hw, ⟨cz, S_CS, hcz⟩, ⟨sf, S_SF, hsf⟩, ⟨d1, d2, kd1, kd2, S_D1, S_D2, V_D1, V_D2⟩⟩ := id hD
  have N0 := Fr.nil Z.heap.size
  have K0 : Keep h0 h0 [b] := Keep.refl _ _
  refine OEnds.cast (ef_sbAppIG m b x) ?_
  refine OEnds.st (S' := T0.setTop (mkF m 2 #[vr b, vi x] [(.int x), (.ref b)])) (fun _ k => ?_) ?_
  · refine XS.aloadN X0.here hx rfl (hb hby d_jdk_67_15_0) rfl rfl ?_
    refine XS.iloadN X0.here hx rfl (hb hby d_jdk_67_15_1) rfl ?_
    exact k
  obtain ⟨_, T1, h1, L1, X1, e1, hQ1, st1⟩ := superC X0 hx hZ (y := (⟨"java/lang/AbstractStringBuilder", "append", "(I)Ljava/lang/AbstractStringBuilder;"⟩ : MethodName)) hown (wq hw 115 rfl) (same_of (nf_sel (args := a0) (wq hw 88 rfl) rfl) (wq hw 116 rfl) (by decide)) (wq hw 116 rfl) (wq hw 69 rfl) (wq hw 118 rfl) (by decide) (kc := 1) (ks := 34) (Con.sb (W := 0) (rm_asbAppIG l hD b x t k n vs A d sg O0 E_b F_coder_b F_count_b F_value_b V_t hvs hmn hmn2 ge_b hDig hS hAb hsg) hZ (wq hw 118 rfl) (wq hw 53 rfl) (by decide) (by decide)) e0 E_b (g := (mkF m 2 #[vr b, vi x] [(.int x), (.ref b)])) rfl (by rw [hml]; rfl) (argsL := [(.int x)]) (rest := []) (lenOf pd_13 rfl) rfl (by show 2 * 0 + _ ≤ _; exact Nat.le_of_eq rfl) (hb hby d_jdk_67_15_2) (by decide) (by decide)
  obtain ⟨r1, kr1, vs1, rfl, Nq1, Kq1, szq1, R1⟩ := hQ1
  refine OEnds.st st1 ?_
  replace N0 := Fr.app N0 Nq1
  have ne_b_r1 : b ≠ r1 := Nat.ne_of_lt (Nat.lt_of_lt_of_le E_b.lt szq1)
  have ne_t_r1 : t ≠ r1 := Nat.ne_of_lt (Nat.lt_of_lt_of_le V_t.lt szq1)
  have ge_r1 : Z.heap.size ≤ r1 := Nat.le_trans O0.1 szq1
  have sz_r1 : h0.size ≤ r1 := Nat.le_trans K0.1 szq1
  have ne_t_b : t ≠ b := Ne.symm (ne_arv E_b (wq hw 44 rfl) V_t)
  replace E_b := E_b.keep Kq1
  replace V_t := V_t.keep Kq1 (ninS ne_t_b nin0)
  replace O0 : Ext Z.heap h1 := ext_keep O0 Kq1 (allS ge_b all0)
  replace K0 : Keep h0 h1 [b] := K0.trans Kq1 (allS (Or.inl (List.mem_of_getElem? (i := 0) rfl)) all0)
  refine OEnds.st (S' := T1.setTop (mkF m 7 #[vr b, vi x] [(.ref b)])) (fun _ k => ?_) ?_
  · refine XS.pop X1.here hx rfl (hb hby d_jdk_67_15_5) rfl rfl ?_
    refine XS.aloadN X1.here hx rfl (hb hby d_jdk_67_15_6) rfl rfl ?_
    exact k
  exact OEnds.ret X1 hx hret hlk rfl (Or.inr (Or.inr (Or.inr (Or.inr ⟨rfl, rfl, rfl⟩)))) (hb hby d_jdk_67_15_7) (by decide) (by decide) (by rw [e1]; exact ⟨r1, kr1, vs1, rfl, N0, K0, sz_r1, R1⟩)
-- java/lang/AbstractStringBuilder.getValue:()[B
def Q_getValue (Z : State) (b : Addr) (t : Addr) (h0 : Heap) (v : Option Value) (h : Heap) (L : List Loc) : Prop := v = some (.ref t) ∧ Fr Z.heap.size L ∧ h = h0
theorem ef_getValue (m : MethodId) (b : Addr) : entryFrame m #[(.ref b)] 1 = mkF m 0 #[vr b] [] := by first | (simp [entryFrame, mkF, argsToLocals, Value.category, vi, vj, vr]; done) | rfl
theorem d_jdk_68_64_0 : decode jdk_68_method_64_code 0 = .ok (.aload_n 0, 1) := by decide +kernel
theorem d_jdk_68_64_1 : decode jdk_68_method_64_code 1 = .ok (.getfield 15, 3) := by decide +kernel
theorem d_jdk_68_64_4 : decode jdk_68_method_64_code 4 = .ok (.areturn, 1) := by decide +kernel
set_option maxRecDepth 65536 in
set_option maxHeartbeats 40000000 in
theorem rm_getValue (l : Launch) {Z : State} {a0 : Array Value} (hD : Wd Z a0) (b : Addr) (t : Addr) {h0 : Heap} (O0 : Ext Z.heap h0) (F_value_b : Fld Z h0 b "java/lang/AbstractStringBuilder" "value" "[B" (.ref t)) :
    Con l Z (⟨"java/lang/AbstractStringBuilder", "getValue", "()[B"⟩ : MethodName) jdk_68_method_64_code 1 (some (.array .byte)) [] ({ frames := 0, cells := 0, slots := 0, locals := 0 } : Room) #[(.ref b)] h0 (Q_getValue Z b t h0) := by
  refine Con.walk (plainFor_of_name pn_2) ?_
  intro p e s m below meth c T0 X0 hx hZ hby hml hown hnm hret hlk e0
  obtain ⟨hw, ⟨cz, S_CS, hcz⟩, ⟨sf, S_SF, hsf⟩, ⟨d1, d2, kd1, kd2, S_D1, S_D2, V_D1, V_D2⟩⟩ := id hD
  have N0 := Fr.nil Z.heap.size
  refine OEnds.cast (ef_getValue m b) ?_
  refine OEnds.st (S' := T0.setTop (mkF m 1 #[vr b] [(.ref b)])) (fun _ k => ?_) ?_
  · refine XS.aloadN X0.here hx rfl (hb hby d_jdk_68_64_0) rfl rfl ?_
    exact k
  obtain ⟨T1, X1, e1, st1⟩ := getF X0 hx hZ hown (host := "") (Or.inl (wq hw 57 rfl)) Via.refl e0 F_value_b (g := (mkF m 1 #[vr b] [(.ref b)])) rfl rfl (hb hby d_jdk_68_64_1)
  refine OEnds.st st1 ?_
  exact OEnds.ret X1 hx hret hlk rfl (Or.inr (Or.inr (Or.inr (Or.inr ⟨rfl, rfl, rfl⟩)))) (hb hby d_jdk_68_64_4) (by decide) (by decide) (by rw [e1]; exact ⟨rfl, N0, rfl⟩)
-- java/lang/AbstractStringBuilder.length:()I
def Q_asbLen (Z : State) (b : Addr) (z : Int32) (h0 : Heap) (v : Option Value) (h : Heap) (L : List Loc) : Prop := v = some (.int z) ∧ Fr Z.heap.size L ∧ h = h0
theorem ef_asbLen (m : MethodId) (b : Addr) : entryFrame m #[(.ref b)] 1 = mkF m 0 #[vr b] [] := by first | (simp [entryFrame, mkF, argsToLocals, Value.category, vi, vj, vr]; done) | rfl
theorem d_jdk_68_6_0 : decode jdk_68_method_6_code 0 = .ok (.aload_n 0, 1) := by decide +kernel
theorem d_jdk_68_6_1 : decode jdk_68_method_6_code 1 = .ok (.getfield 79, 3) := by decide +kernel
theorem d_jdk_68_6_4 : decode jdk_68_method_6_code 4 = .ok (.ireturn, 1) := by decide +kernel
set_option maxRecDepth 65536 in
set_option maxHeartbeats 40000000 in
theorem rm_asbLen (l : Launch) {Z : State} {a0 : Array Value} (hD : Wd Z a0) (b : Addr) (z : Int32) {h0 : Heap} (O0 : Ext Z.heap h0) (F_count_b : Fld Z h0 b "java/lang/AbstractStringBuilder" "count" "I" (.int z)) :
    Con l Z (⟨"java/lang/AbstractStringBuilder", "length", "()I"⟩ : MethodName) jdk_68_method_6_code 1 (some .int) [] ({ frames := 0, cells := 0, slots := 0, locals := 0 } : Room) #[(.ref b)] h0 (Q_asbLen Z b z h0) := by
  refine Con.walk (plainFor_of_name pn_2) ?_
  intro p e s m below meth c T0 X0 hx hZ hby hml hown hnm hret hlk e0
  obtain ⟨hw, ⟨cz, S_CS, hcz⟩, ⟨sf, S_SF, hsf⟩, ⟨d1, d2, kd1, kd2, S_D1, S_D2, V_D1, V_D2⟩⟩ := id hD
  have N0 := Fr.nil Z.heap.size
  refine OEnds.cast (ef_asbLen m b) ?_
  refine OEnds.st (S' := T0.setTop (mkF m 1 #[vr b] [(.ref b)])) (fun _ k => ?_) ?_
  · refine XS.aloadN X0.here hx rfl (hb hby d_jdk_68_6_0) rfl rfl ?_
    exact k
  obtain ⟨T1, X1, e1, st1⟩ := getF X0 hx hZ hown (host := "") (Or.inl (wq hw 83 rfl)) Via.refl e0 F_count_b (g := (mkF m 1 #[vr b] [(.ref b)])) rfl rfl (hb hby d_jdk_68_6_1)
  refine OEnds.st st1 ?_
  exact OEnds.ret X1 hx hret hlk rfl (Or.inl ⟨rfl, by simp, _, rfl⟩) (hb hby d_jdk_68_6_4) (by decide) (by decide) (by rw [e1]; exact ⟨rfl, N0, rfl⟩)
-- java/lang/StringBuilder.length:()I
def Q_sbLen (Z : State) (b : Addr) (z : Int32) (h0 : Heap) (v : Option Value) (h : Heap) (L : List Loc) : Prop := v = some (.int z) ∧ Fr Z.heap.size L ∧ h = h0
theorem ef_sbLen (m : MethodId) (b : Addr) : entryFrame m #[(.ref b)] 1 = mkF m 0 #[vr b] [] := by first | (simp [entryFrame, mkF, argsToLocals, Value.category, vi, vj, vr]; done) | rfl
theorem d_jdk_67_93_0 : decode jdk_67_method_93_code 0 = .ok (.aload_n 0, 1) := by decide +kernel
theorem d_jdk_67_93_1 : decode jdk_67_method_93_code 1 = .ok (.invokespecial 343, 3) := by decide +kernel
theorem d_jdk_67_93_4 : decode jdk_67_method_93_code 4 = .ok (.ireturn, 1) := by decide +kernel
set_option maxRecDepth 65536 in
set_option maxHeartbeats 40000000 in
theorem rm_sbLen (l : Launch) {Z : State} {a0 : Array Value} (hD : Wd Z a0) (b : Addr) (z : Int32) {h0 : Heap} (O0 : Ext Z.heap h0) (E_b : Exa Z h0 b "java/lang/StringBuilder") (F_count_b : Fld Z h0 b "java/lang/AbstractStringBuilder" "count" "I" (.int z)) :
    Con l Z (⟨"java/lang/StringBuilder", "length", "()I"⟩ : MethodName) jdk_67_method_93_code 1 (some .int) [] ({ frames := 1, cells := 0, slots := 0, locals := 12 } : Room) #[(.ref b)] h0 (Q_sbLen Z b z h0) := by
  refine Con.walk (plainFor_of_name pn_3) ?_
  intro p e s m below meth c T0 X0 hx hZ hby hml hown hnm hret hlk e0
  obtain ⟨hw, ⟨cz, S_CS, hcz⟩, ⟨sf, S_SF, hsf⟩, ⟨d1, d2, kd1, kd2, S_D1, S_D2, V_D1, V_D2⟩⟩ := id hD
  have N0 := Fr.nil Z.heap.size
  refine OEnds.cast (ef_sbLen m b) ?_
  refine OEnds.st (S' := T0.setTop (mkF m 1 #[vr b] [(.ref b)])) (fun _ k => ?_) ?_
  · refine XS.aloadN X0.here hx rfl (hb hby d_jdk_67_93_0) rfl rfl ?_
    exact k
  obtain ⟨_, T1, h1, L1, X1, e1, hQ1, st1⟩ := superC X0 hx hZ (y := (⟨"java/lang/AbstractStringBuilder", "length", "()I"⟩ : MethodName)) hown (wq hw 179 rfl) (same_of (nf_sel (args := a0) (wq hw 88 rfl) rfl) (wq hw 175 rfl) (by decide)) (wq hw 175 rfl) (wq hw 69 rfl) (wq hw 180 rfl) (by decide) (kc := 0) (ks := 0) (Con.sb (W := 0) (rm_asbLen l hD b z O0 F_count_b) hZ (wq hw 180 rfl) (wq hw 53 rfl) (by decide) (by decide)) e0 E_b (g := (mkF m 1 #[vr b] [(.ref b)])) rfl (by rw [hml]; rfl) (argsL := []) (rest := []) (lenOf pd_4 rfl) rfl (by show 2 * 0 + _ ≤ _; exact Nat.le_of_eq rfl) (hb hby d_jdk_67_93_1) (by decide) (by decide)
  obtain ⟨rfl, Nq1, Hq1⟩ := hQ1
  refine OEnds.st st1 ?_
  replace N0 := Fr.app N0 Nq1
  replace e1 := e1.trans Hq1
  exact OEnds.ret X1 hx hret hlk rfl (Or.inl ⟨rfl, by simp, _, rfl⟩) (hb hby d_jdk_67_93_4) (by decide) (by decide) (by rw [e1]; exact ⟨rfl, N0, rfl⟩)
-- java/lang/Math.min:(II)I
def Q_mathMin (Z : State) (x0 : Int32) (y0 : Int32) (h0 : Heap) (v : Option Value) (h : Heap) (L : List Loc) : Prop := v = some (.int y0) ∧ Fr Z.heap.size L ∧ h = h0
theorem ef_mathMin (m : MethodId) (x0 : Int32) (y0 : Int32) : entryFrame m #[(.int x0), (.int y0)] 2 = mkF m 0 #[vi x0, vi y0] [] := by first | (simp [entryFrame, mkF, argsToLocals, Value.category, vi, vj, vr]; done) | rfl
theorem d_jdk_29_69_9 : decode jdk_29_method_69_code 9 = .ok (.iload_n 1, 1) := by decide +kernel
set_option maxRecDepth 65536 in
set_option maxHeartbeats 40000000 in
theorem rm_mathMin (l : Launch) {Z : State} {a0 : Array Value} (hD : Wd Z a0) (x0 : Int32) (y0 : Int32) {h0 : Heap} (O0 : Ext Z.heap h0) (hlt : y0 < x0) :
    Con l Z (⟨"java/lang/Math", "min", "(II)I"⟩ : MethodName) jdk_29_method_69_code 2 (some .int) [] ({ frames := 0, cells := 0, slots := 0, locals := 0 } : Room) #[(.int x0), (.int y0)] h0 (Q_mathMin Z x0 y0 h0) := by
  refine Con.walk (Jvm.Free.JP.mathPlain rfl (by decide +kernel)) ?_
  intro p e s m below meth c T0 X0 hx hZ hby hml hown hnm hret hlk e0
  obtain ⟨hw, ⟨cz, S_CS, hcz⟩, ⟨sf, S_SF, hsf⟩, ⟨d1, d2, kd1, kd2, S_D1, S_D2, V_D1, V_D2⟩⟩ := id hD
  have N0 := Fr.nil Z.heap.size
  refine OEnds.cast (ef_mathMin m x0 y0) ?_
  refine OEnds.st (S' := T0.setTop (mkF m 10 #[vi x0, vi y0] [(.int y0)])) (fun _ k => ?_) ?_
  · refine XS.iloadN X0.here hx rfl (hb hby d_jdk_29_69_0) rfl ?_
    refine XS.iloadN X0.here hx rfl (hb hby d_jdk_29_69_1) rfl ?_
    refine XS.icmpYes X0.here hx rfl (pc0 := 2) (pc' := 9) rfl (hb hby d_jdk_29_69_2) rfl (tlt hlt).2.2.1 (by decide) (by decide) ?_
    refine XS.iloadN X0.here hx rfl (hb hby d_jdk_29_69_9) rfl ?_
    exact k
  exact OEnds.ret X0 hx hret hlk rfl (Or.inl ⟨rfl, by simp, _, rfl⟩) (hb hby d_jdk_29_69_10) (by decide) (by decide) (by rw [e0]; exact ⟨rfl, N0, rfl⟩)
-- java/util/Arrays.checkLength:(II)V
def Q_checkLen (Z : State) (x0 : Int32) (y0 : Int32) (h0 : Heap) (v : Option Value) (h : Heap) (L : List Loc) : Prop := v = none ∧ Fr Z.heap.size L ∧ h = h0
theorem ef_checkLen (m : MethodId) (x0 : Int32) (y0 : Int32) : entryFrame m #[(.int x0), (.int y0)] 2 = mkF m 0 #[vi x0, vi y0] [] := by first | (simp [entryFrame, mkF, argsToLocals, Value.category, vi, vj, vr]; done) | rfl
theorem d_jdk_65_131_0 : decode jdk_65_method_131_code 0 = .ok (.iload_n 1, 1) := by decide +kernel
theorem d_jdk_65_131_1 : decode jdk_65_method_131_code 1 = .ok (.iload_n 0, 1) := by decide +kernel
theorem d_jdk_65_131_2 : decode jdk_65_method_131_code 2 = .ok (.if_icmp .ge 35, 3) := by decide +kernel
theorem d_jdk_65_131_37 : decode jdk_65_method_131_code 37 = .ok (.return_, 1) := by decide +kernel
set_option maxRecDepth 65536 in
set_option maxHeartbeats 40000000 in
theorem rm_checkLen (l : Launch) {Z : State} {a0 : Array Value} (hD : Wd Z a0) (x0 : Int32) (y0 : Int32) {h0 : Heap} (O0 : Ext Z.heap h0) (hge : ¬ y0 < x0) :
    Con l Z (⟨"java/util/Arrays", "checkLength", "(II)V"⟩ : MethodName) jdk_65_method_131_code 2 none [] ({ frames := 0, cells := 0, slots := 0, locals := 0 } : Room) #[(.int x0), (.int y0)] h0 (Q_checkLen Z x0 y0 h0) := by
  refine Con.walk (plainFor_of_name pn_5) ?_
  intro p e s m below meth c T0 X0 hx hZ hby hml hown hnm hret hlk e0
  obtain ⟨hw, ⟨cz, S_CS, hcz⟩, ⟨sf, S_SF, hsf⟩, ⟨d1, d2, kd1, kd2, S_D1, S_D2, V_D1, V_D2⟩⟩ := id hD
  have N0 := Fr.nil Z.heap.size
  refine OEnds.cast (ef_checkLen m x0 y0) ?_
  refine OEnds.st (S' := T0.setTop (mkF m 37 #[vi x0, vi y0] [])) (fun _ k => ?_) ?_
  · refine XS.iloadN X0.here hx rfl (hb hby d_jdk_65_131_0) rfl ?_
    refine XS.iloadN X0.here hx rfl (hb hby d_jdk_65_131_1) rfl ?_
    refine XS.icmpYes X0.here hx rfl (pc0 := 2) (pc' := 37) rfl (hb hby d_jdk_65_131_2) rfl (flt hge).2.1 (by decide) (by decide) ?_
    exact k
  exact OEnds.retV X0 hx hret hlk (hb hby d_jdk_65_131_37) (by decide) (by decide) (by rw [e0]; exact ⟨rfl, N0, rfl⟩)
-- java/util/Arrays.copyOfRangeByte:([BII)[B
def Q_corByte (Z : State) (t : Addr) (k : ClassId) (cN n : Nat) (vs : List Value) (h0 : Heap) (v : Option Value) (h : Heap) (L : List Loc) : Prop := ∃ (r : Addr) (kr : ClassId), v = some (.ref r) ∧ Fr Z.heap.size L ∧ Keep h0 h [] ∧ h0.size ≤ r ∧ Arv Z h r kr .byte (Int32.ofNat n) (vs.take n) (.int 0)
theorem ef_corByte (m : MethodId) (t : Addr) : entryFrame m #[(.ref t), (.int 0), (.int (Int32.ofNat n))] 5 = mkF m 0 #[vr t, vi 0, vi (Int32.ofNat n), .unset, .unset] [] := by first | (simp [entryFrame, mkF, argsToLocals, Value.category, vi, vj, vr]; done) | rfl
theorem d_jdk_65_133_0 : decode jdk_65_method_133_code 0 = .ok (.iload_n 1, 1) := by decide +kernel
theorem d_jdk_65_133_1 : decode jdk_65_method_133_code 1 = .ok (.iload_n 2, 1) := by decide +kernel
theorem d_jdk_65_133_2 : decode jdk_65_method_133_code 2 = .ok (.invokestatic 343, 3) := by decide +kernel
theorem pd_14 : parseMethodDescriptor "(II)V" = some ⟨[.int, .int], none⟩ := by decide +kernel
theorem d_jdk_65_133_5 : decode jdk_65_method_133_code 5 = .ok (.iload_n 2, 1) := by decide +kernel
theorem d_jdk_65_133_6 : decode jdk_65_method_133_code 6 = .ok (.iload_n 1, 1) := by decide +kernel
theorem d_jdk_65_133_7 : decode jdk_65_method_133_code 7 = .ok (.isub, 1) := by decide +kernel
theorem d_jdk_65_133_8 : decode jdk_65_method_133_code 8 = .ok (.istore_n 3, 1) := by decide +kernel
theorem d_jdk_65_133_9 : decode jdk_65_method_133_code 9 = .ok (.iload_n 3, 1) := by decide +kernel
theorem d_jdk_65_133_10 : decode jdk_65_method_133_code 10 = .ok (.newarray .byte, 2) := by decide +kernel
theorem d_jdk_65_133_12 : decode jdk_65_method_133_code 12 = .ok (.astore 4, 2) := by decide +kernel
theorem d_jdk_65_133_14 : decode jdk_65_method_133_code 14 = .ok (.aload_n 0, 1) := by decide +kernel
theorem d_jdk_65_133_15 : decode jdk_65_method_133_code 15 = .ok (.iload_n 1, 1) := by decide +kernel
theorem d_jdk_65_133_16 : decode jdk_65_method_133_code 16 = .ok (.aload 4, 2) := by decide +kernel
theorem d_jdk_65_133_18 : decode jdk_65_method_133_code 18 = .ok (.iconst 0, 1) := by decide +kernel
theorem d_jdk_65_133_19 : decode jdk_65_method_133_code 19 = .ok (.aload_n 0, 1) := by decide +kernel
theorem d_jdk_65_133_20 : decode jdk_65_method_133_code 20 = .ok (.arraylength, 1) := by decide +kernel
theorem d_jdk_65_133_21 : decode jdk_65_method_133_code 21 = .ok (.iload_n 1, 1) := by decide +kernel
theorem d_jdk_65_133_22 : decode jdk_65_method_133_code 22 = .ok (.isub, 1) := by decide +kernel
theorem d_jdk_65_133_23 : decode jdk_65_method_133_code 23 = .ok (.iload_n 3, 1) := by decide +kernel
theorem d_jdk_65_133_24 : decode jdk_65_method_133_code 24 = .ok (.invokestatic 304, 3) := by decide +kernel
theorem d_jdk_65_133_27 : decode jdk_65_method_133_code 27 = .ok (.invokestatic 150, 3) := by decide +kernel
theorem d_jdk_65_133_30 : decode jdk_65_method_133_code 30 = .ok (.aload 4, 2) := by decide +kernel
theorem d_jdk_65_133_32 : decode jdk_65_method_133_code 32 = .ok (.areturn, 1) := by decide +kernel
set_option maxRecDepth 65536 in
set_option maxHeartbeats 40000000 in
theorem rm_corByte (l : Launch) {Z : State} {a0 : Array Value} (hD : Wd Z a0) (t : Addr) (k : ClassId) (cN n : Nat) (vs : List Value) {h0 : Heap} (O0 : Ext Z.heap h0) (V_t : Arv Z h0 t k .byte (Int32.ofNat cN) vs (.int 0)) (hvs : vs.length = cN) (hcN : cN ≤ 4000) (hn : n < cN) (hcap : n ≤ 33) :
    Con l Z (⟨"java/util/Arrays", "copyOfRangeByte", "([BII)[B"⟩ : MethodName) jdk_65_method_133_code 5 (some (.array .byte)) [] ({ frames := 1, cells := 1, slots := 33, locals := 18 } : Room) #[(.ref t), (.int 0), (.int (Int32.ofNat n))] h0 (Q_corByte Z t k cN n vs h0) := by
  refine Con.walk (plainFor_of_name pn_5) ?_
  intro p e s m below meth c T0 X0 hx hZ hby hml hown hnm hret hlk e0
  obtain ⟨hw, ⟨cz, S_CS, hcz⟩, ⟨sf, S_SF, hsf⟩, ⟨d1, d2, kd1, kd2, S_D1, S_D2, V_D1, V_D2⟩⟩ := id hD
  have N0 := Fr.nil Z.heap.size
  have K0 : Keep h0 h0 [] := Keep.refl _ _
  refine OEnds.cast (ef_corByte m t) ?_
  have hn31 : n < 2 ^ 31 := by omega
  have hc31 : cN < 2 ^ 31 := by omega
  refine OEnds.st (S' := T0.setTop (mkF m 2 #[vr t, vi 0, vi (Int32.ofNat n), .unset, .unset] [(.int (Int32.ofNat n)), (.int 0)])) (fun _ k => ?_) ?_
  · refine XS.iloadN X0.here hx rfl (hb hby d_jdk_65_133_0) rfl ?_
    refine XS.iloadN X0.here hx rfl (hb hby d_jdk_65_133_1) rfl ?_
    exact k
  obtain ⟨_, T1, h1, L1, X1, e1, hQ1, st1⟩ := callC X0 hx hZ hown (wq hw 188 rfl) (wq hw 189 rfl) (wq hw 150 rfl) (wq hw 190 rfl) (by decide) (kc := 0) (ks := 0) (Con.sb (W := 0) (rm_checkLen l hD (0 : Int32) (Int32.ofNat n) O0 (ofn_nneg hn31)) hZ (wq hw 190 rfl) (wq hw 150 rfl) (by decide) (by decide)) e0 (g := (mkF m 2 #[vr t, vi 0, vi (Int32.ofNat n), .unset, .unset] [(.int (Int32.ofNat n)), (.int 0)])) rfl (by rw [hml]; rfl) (argsL := [(.int 0), (.int (Int32.ofNat n))]) (rest := []) (lenOf pd_14 rfl) rfl (by show 2 * 0 + _ ≤ _; exact Nat.le_of_eq rfl) (hb hby d_jdk_65_133_2) (by decide) (by decide)
  obtain ⟨rfl, Nq1, Hq1⟩ := hQ1
  refine OEnds.st st1 ?_
  replace N0 := Fr.app N0 Nq1
  replace e1 := e1.trans Hq1
  refine OEnds.st (S' := T1.setTop (mkF m 8 #[vr t, vi 0, vi (Int32.ofNat n), .unset, .unset] [(.int ((Int32.ofNat n) - (0 : Int32)))])) (fun _ k => ?_) ?_
  · refine XS.iloadN X1.here hx rfl (hb hby d_jdk_65_133_5) rfl ?_
    refine XS.iloadN X1.here hx rfl (hb hby d_jdk_65_133_6) rfl ?_
    refine XS.isub X1.here hx rfl (hb hby d_jdk_65_133_7) rfl ?_
    exact k
  rw [sub0]
  refine OEnds.st (S' := T1.setTop (mkF m 10 #[vr t, vi 0, vi (Int32.ofNat n), vi (Int32.ofNat n), .unset] [(.int (Int32.ofNat n))])) (fun _ k => ?_) ?_
  · refine XS.istoreN X1.here hx rfl (hb hby d_jdk_65_133_8) rfl (l' := #[vr t, vi 0, vi (Int32.ofNat n), vi (Int32.ofNat n), .unset]) rfl ?_
    refine XS.iloadN X1.here hx rfl (hb hby d_jdk_65_133_9) rfl ?_
    exact k
  obtain ⟨T2, h2, k2, X2, e2, E2, A2, st2⟩ := newP X1 hx hZ (wq hw 15 rfl) e1 (g := (mkF m 10 #[vr t, vi 0, vi (Int32.ofNat n), vi (Int32.ofNat n), .unset] [(.int (Int32.ofNat n))])) rfl (hb hby d_jdk_65_133_10) rfl (ofn_nneg hn31) (cap := 33) (by rw [ofn_clamp hn31]; exact hcap) (by decide) (by decide) (by decide)
  obtain ⟨b2, g2⟩ : ∃ z, z = h0.size := ⟨_, rfl⟩
  rw [← g2] at A2 st2
  refine OEnds.st st2 ?_
  have ne_t_b2 : t ≠ b2 := Nat.ne_of_lt (Nat.lt_of_lt_of_le V_t.lt (Nat.le_of_eq g2.symm))
  have ge_b2 : Z.heap.size ≤ b2 := Nat.le_trans O0.1 (Nat.le_of_eq g2.symm)
  have sz_b2 : h0.size ≤ b2 := Nat.le_trans K0.1 (Nat.le_of_eq g2.symm)
  replace V_t := V_t.ext E2
  replace O0 : Ext Z.heap h2 := ext_trans O0 E2
  replace K0 : Keep h0 h2 [] := K0.ext E2
  have V_b2 : Arv Z h2 b2 k2 .byte (Int32.ofNat n) (List.replicate n (.int 0)) (.int 0) := (Arv.new A2 (ofn_nneg hn31)).pad (pad_rep [] ((.int 0) : Value) n)
  refine OEnds.st (S' := T2.setTop (mkF m 20 #[vr t, vi 0, vi (Int32.ofNat n), vi (Int32.ofNat n), vr b2] [(.ref t), (.int 0), (.ref b2), (.int 0), (.ref t)])) (fun _ k => ?_) ?_
  · refine XS.astore X2.here hx rfl (hb hby d_jdk_65_133_12) rfl rfl (l' := #[vr t, vi 0, vi (Int32.ofNat n), vi (Int32.ofNat n), vr b2]) rfl ?_
    refine XS.aloadN X2.here hx rfl (hb hby d_jdk_65_133_14) rfl rfl ?_
    refine XS.iloadN X2.here hx rfl (hb hby d_jdk_65_133_15) rfl ?_
    refine XS.aload X2.here hx rfl (hb hby d_jdk_65_133_16) rfl rfl ?_
    show Steps p.tables e below (T2.setTop (mkF m 18 #[vr t, vi 0, vi (Int32.ofNat n), vi (Int32.ofNat n), vr b2] [(.ref b2), (.int 0), (.ref t)])) _
    refine XS.iconst X2.here hx rfl (hb hby d_jdk_65_133_18) ?_
    refine XS.aloadN X2.here hx rfl (hb hby d_jdk_65_133_19) rfl rfl ?_
    exact k
  obtain ⟨cl_t_3, Ar_t_3, q_t_3, S_t_3, N_t_3, H_t_3, G_t_3⟩ := id V_t
  refine OEnds.st (S' := T2.setTop (mkF m 21 #[vr t, vi 0, vi (Int32.ofNat n), vi (Int32.ofNat n), vr b2] [(.int (Int32.ofNat cN)), (.int 0), (.ref b2), (.int 0), (.ref t)])) (fun tg kq9 => X2.arraylength hx (by rw [e2]; exact Ar_t_3.1) (State.isArrayOf_alike hZ.alike Ar_t_3.2.1) (g := (mkF m 20 #[vr t, vi 0, vi (Int32.ofNat n), vi (Int32.ofNat n), vr b2] [(.ref t), (.int 0), (.ref b2), (.int 0), (.ref t)])) rfl rfl (hb hby d_jdk_65_133_20) tg (by rw [len_of S_t_3 N_t_3]; exact kq9)) ?_
  refine OEnds.st (S' := T2.setTop (mkF m 23 #[vr t, vi 0, vi (Int32.ofNat n), vi (Int32.ofNat n), vr b2] [(.int ((Int32.ofNat cN) - (0 : Int32))), (.int 0), (.ref b2), (.int 0), (.ref t)])) (fun _ k => ?_) ?_
  · refine XS.iloadN X2.here hx rfl (hb hby d_jdk_65_133_21) rfl ?_
    refine XS.isub X2.here hx rfl (hb hby d_jdk_65_133_22) rfl ?_
    exact k
  rw [sub0]
  refine OEnds.st (S' := T2.setTop (mkF m 24 #[vr t, vi 0, vi (Int32.ofNat n), vi (Int32.ofNat n), vr b2] [(.int (Int32.ofNat n)), (.int (Int32.ofNat cN)), (.int 0), (.ref b2), (.int 0), (.ref t)])) (fun _ k => ?_) ?_
  · refine XS.iloadN X2.here hx rfl (hb hby d_jdk_65_133_23) rfl ?_
    exact k
  obtain ⟨_, T4, h4, L4, X4, e4, hQ4, st4⟩ := callC X2 hx hZ hown (wq hw 152 rfl) (wq hw 153 rfl) (wq hw 144 rfl) (wq hw 154 rfl) (by decide) (kc := 0) (ks := 0) (Con.sb (W := 4) (rm_mathMin l hD (Int32.ofNat cN) (Int32.ofNat n) O0 ((ofn_lt hn31 hc31).mpr hn)) hZ (wq hw 154 rfl) (wq hw 144 rfl) (by decide) (by decide)) e2 (g := (mkF m 24 #[vr t, vi 0, vi (Int32.ofNat n), vi (Int32.ofNat n), vr b2] [(.int (Int32.ofNat n)), (.int (Int32.ofNat cN)), (.int 0), (.ref b2), (.int 0), (.ref t)])) rfl (by rw [hml]; rfl) (argsL := [(.int (Int32.ofNat cN)), (.int (Int32.ofNat n))]) (rest := [(.int 0), (.ref b2), (.int 0), (.ref t)]) (lenOf pd_7 rfl) rfl (by show 2 * 0 + _ ≤ _; exact Nat.le_of_eq rfl) (hb hby d_jdk_65_133_24) (by decide) (by decide)
  obtain ⟨rfl, Nq4, Hq4⟩ := hQ4
  refine OEnds.st st4 ?_
  replace N0 := Fr.app N0 Nq4
  replace e4 := e4.trans Hq4
  obtain ⟨T5, h5, L5, X5, e5, Nw5, Kq5, V5, st5⟩ := cpA X4 hx hZ hown (wq hw 155 rfl) (wq hw 109 rfl) (wq hw 107 rfl) (wq hw 108 rfl) e4 V_t V_b2 (us := _) (Or.inl ⟨rfl, rfl⟩) (by decide) (by decide) (ofn_nneg hn31) (by rw [ofn_clamp hn31, ofn_clamp hc31]; exact Nat.le_trans (Nat.le_of_eq (Nat.zero_add _)) (Nat.le_of_lt hn)) (Nat.le_of_eq (Nat.zero_add _)) rfl (by rw [ofn_clamp hn31, List.length_replicate]; exact Nat.le_of_eq (Nat.zero_add _)) N0 ge_b2 (g := (mkF m 27 #[vr t, vi 0, vi (Int32.ofNat n), vi (Int32.ofNat n), vr b2] [(.int (Int32.ofNat n)), (.int 0), (.ref b2), (.int 0), (.ref t)])) rfl (by rw [hml]; rfl) rfl (hb hby d_jdk_65_133_27) (by decide) (W := 0) (by show 2 * 0 + _ ≤ _; exact Nat.le_of_eq rfl) (by decide)
  replace N0 := Nw5
  refine OEnds.st st5 ?_
  replace V_t := V_t.keep Kq5 (ninS ne_t_b2 nin0)
  replace O0 : Ext Z.heap h5 := ext_keep O0 Kq5 (allS ge_b2 all0)
  replace K0 : Keep h0 h5 [] := K0.trans Kq5 (allS (Or.inr sz_b2) all0)
  have V_b2_5 : Arv Z h5 b2 k2 .byte (Int32.ofNat n) (vs.take n) (.int 0) := by rw [← (cr_list (by omega) hn31)]; exact V5
  refine OEnds.st (S' := T5.setTop (mkF m 32 #[vr t, vi 0, vi (Int32.ofNat n), vi (Int32.ofNat n), vr b2] [(.ref b2)])) (fun _ k => ?_) ?_
  · refine XS.aload X5.here hx rfl (hb hby d_jdk_65_133_30) rfl rfl ?_
    exact k
  exact OEnds.ret X5 hx hret hlk rfl (Or.inr (Or.inr (Or.inr (Or.inr ⟨rfl, rfl, rfl⟩)))) (hb hby d_jdk_65_133_32) (by decide) (by decide) (by rw [e5]; exact ⟨b2, _, rfl, N0, K0, sz_b2, V_b2_5⟩)
-- java/util/Arrays.copyOfRange:([BII)[B
def Q_copyOR (Z : State) (t : Addr) (k : ClassId) (cN n : Nat) (vs : List Value) (h0 : Heap) (v : Option Value) (h : Heap) (L : List Loc) : Prop := ∃ (r : Addr) (kr : ClassId), v = some (.ref r) ∧ Fr Z.heap.size L ∧ Keep h0 h [] ∧ h0.size ≤ r ∧ Arv Z h r kr .byte (Int32.ofNat n) (vs.take n) (.int 0)
theorem ef_copyOR (m : MethodId) (t : Addr) : entryFrame m #[(.ref t), (.int 0), (.int (Int32.ofNat n))] 3 = mkF m 0 #[vr t, vi 0, vi (Int32.ofNat n)] [] := by first | (simp [entryFrame, mkF, argsToLocals, Value.category, vi, vj, vr]; done) | rfl
theorem d_jdk_65_132_0 : decode jdk_65_method_132_code 0 = .ok (.iload_n 1, 1) := by decide +kernel
theorem d_jdk_65_132_1 : decode jdk_65_method_132_code 1 = .ok (.ifCond .ne 9, 3) := by decide +kernel
theorem d_jdk_65_132_4 : decode jdk_65_method_132_code 4 = .ok (.iload_n 2, 1) := by decide +kernel
theorem d_jdk_65_132_5 : decode jdk_65_method_132_code 5 = .ok (.aload_n 0, 1) := by decide +kernel
theorem d_jdk_65_132_6 : decode jdk_65_method_132_code 6 = .ok (.arraylength, 1) := by decide +kernel
theorem d_jdk_65_132_7 : decode jdk_65_method_132_code 7 = .ok (.if_icmp .eq 10, 3) := by decide +kernel
theorem d_jdk_65_132_10 : decode jdk_65_method_132_code 10 = .ok (.aload_n 0, 1) := by decide +kernel
theorem d_jdk_65_132_11 : decode jdk_65_method_132_code 11 = .ok (.iload_n 1, 1) := by decide +kernel
theorem d_jdk_65_132_12 : decode jdk_65_method_132_code 12 = .ok (.iload_n 2, 1) := by decide +kernel
theorem d_jdk_65_132_13 : decode jdk_65_method_132_code 13 = .ok (.invokestatic 339, 3) := by decide +kernel
theorem pd_15 : parseMethodDescriptor "([BII)[B" = some ⟨[(.array .byte), .int, .int], some (.array .byte)⟩ := by decide +kernel
theorem d_jdk_65_132_16 : decode jdk_65_method_132_code 16 = .ok (.areturn, 1) := by decide +kernel
set_option maxRecDepth 65536 in
set_option maxHeartbeats 40000000 in
theorem rm_copyOR (l : Launch) {Z : State} {a0 : Array Value} (hD : Wd Z a0) (t : Addr) (k : ClassId) (cN n : Nat) (vs : List Value) {h0 : Heap} (O0 : Ext Z.heap h0) (V_t : Arv Z h0 t k .byte (Int32.ofNat cN) vs (.int 0)) (hvs : vs.length = cN) (hcN : cN ≤ 4000) (hn : n < cN) (hcap : n ≤ 33) :
    Con l Z (⟨"java/util/Arrays", "copyOfRange", "([BII)[B"⟩ : MethodName) jdk_65_method_132_code 3 (some (.array .byte)) [] ({ frames := 2, cells := 1, slots := 33, locals := 34 } : Room) #[(.ref t), (.int 0), (.int (Int32.ofNat n))] h0 (Q_copyOR Z t k cN n vs h0) := by
  refine Con.walk (plainFor_of_name pn_5) ?_
  intro p e s m below meth c T0 X0 hx hZ hby hml hown hnm hret hlk e0
  obtain ⟨hw, ⟨cz, S_CS, hcz⟩, ⟨sf, S_SF, hsf⟩, ⟨d1, d2, kd1, kd2, S_D1, S_D2, V_D1, V_D2⟩⟩ := id hD
  have N0 := Fr.nil Z.heap.size
  have K0 : Keep h0 h0 [] := Keep.refl _ _
  refine OEnds.cast (ef_copyOR m t) ?_
  have hn31 : n < 2 ^ 31 := by omega
  have hc31 : cN < 2 ^ 31 := by omega
  refine OEnds.st (S' := T0.setTop (mkF m 6 #[vr t, vi 0, vi (Int32.ofNat n)] [(.ref t), (.int (Int32.ofNat n))])) (fun _ k => ?_) ?_
  · refine XS.iloadN X0.here hx rfl (hb hby d_jdk_65_132_0) rfl ?_
    refine XS.ifNo X0.here hx rfl (hb hby d_jdk_65_132_1) rfl ((if0 _ _).trans (teq (by decide)).2) ?_
    refine XS.iloadN X0.here hx rfl (hb hby d_jdk_65_132_4) rfl ?_
    refine XS.aloadN X0.here hx rfl (hb hby d_jdk_65_132_5) rfl rfl ?_
    exact k
  obtain ⟨cl_t_1, Ar_t_1, q_t_1, S_t_1, N_t_1, H_t_1, G_t_1⟩ := id V_t
  refine OEnds.st (S' := T0.setTop (mkF m 7 #[vr t, vi 0, vi (Int32.ofNat n)] [(.int (Int32.ofNat cN)), (.int (Int32.ofNat n))])) (fun tg kq9 => X0.arraylength hx (by rw [e0]; exact Ar_t_1.1) (State.isArrayOf_alike hZ.alike Ar_t_1.2.1) (g := (mkF m 6 #[vr t, vi 0, vi (Int32.ofNat n)] [(.ref t), (.int (Int32.ofNat n))])) rfl rfl (hb hby d_jdk_65_132_6) tg (by rw [len_of S_t_1 N_t_1]; exact kq9)) ?_
  refine OEnds.st (S' := T0.setTop (mkF m 13 #[vr t, vi 0, vi (Int32.ofNat n)] [(.int (Int32.ofNat n)), (.int 0), (.ref t)])) (fun _ k => ?_) ?_
  · refine XS.icmpNo X0.here hx rfl (hb hby d_jdk_65_132_7) rfl (feq (ofn_ne (Nat.ne_of_lt hn) hn31 hc31)).1 ?_
    refine XS.aloadN X0.here hx rfl (hb hby d_jdk_65_132_10) rfl rfl ?_
    refine XS.iloadN X0.here hx rfl (hb hby d_jdk_65_132_11) rfl ?_
    refine XS.iloadN X0.here hx rfl (hb hby d_jdk_65_132_12) rfl ?_
    exact k
  obtain ⟨_, T2, h2, L2, X2, e2, hQ2, st2⟩ := callC X0 hx hZ hown (wq hw 185 rfl) (wq hw 186 rfl) (wq hw 150 rfl) (wq hw 187 rfl) (by decide) (kc := 1) (ks := 33) (Con.sb (W := 0) (rm_corByte l hD t k cN n vs O0 V_t hvs hcN hn hcap) hZ (wq hw 187 rfl) (wq hw 150 rfl) (by decide) (by decide)) e0 (g := (mkF m 13 #[vr t, vi 0, vi (Int32.ofNat n)] [(.int (Int32.ofNat n)), (.int 0), (.ref t)])) rfl (by rw [hml]; rfl) (argsL := [(.ref t), (.int 0), (.int (Int32.ofNat n))]) (rest := []) (lenOf pd_15 rfl) rfl (by show 2 * 0 + _ ≤ _; exact Nat.le_of_eq rfl) (hb hby d_jdk_65_132_13) (by decide) (by decide)
  obtain ⟨r2, kr2, rfl, Nq2, Kq2, szq2, V2⟩ := hQ2
  refine OEnds.st st2 ?_
  replace N0 := Fr.app N0 Nq2
  have ne_t_r2 : t ≠ r2 := Nat.ne_of_lt (Nat.lt_of_lt_of_le V_t.lt szq2)
  have ge_r2 : Z.heap.size ≤ r2 := Nat.le_trans O0.1 szq2
  have sz_r2 : h0.size ≤ r2 := Nat.le_trans K0.1 szq2
  replace V_t := V_t.keep Kq2 nin0
  replace O0 : Ext Z.heap h2 := ext_keep O0 Kq2 all0
  replace K0 : Keep h0 h2 [] := K0.trans Kq2 all0
  exact OEnds.ret X2 hx hret hlk rfl (Or.inr (Or.inr (Or.inr (Or.inr ⟨rfl, rfl, rfl⟩)))) (hb hby d_jdk_65_132_16) (by decide) (by decide) (by rw [e2]; exact ⟨r2, kr2, rfl, N0, K0, sz_r2, V2⟩)
-- java/lang/String.<init>:(Ljava/lang/AbstractStringBuilder;Ljava/lang/Void;)V
def Q_strInitASB (Z : State) (a : Addr) (b : Addr) (t : Addr) (k : ClassId) (cN n : Nat) (vs : List Value) (h0 : Heap) (v : Option Value) (h : Heap) (L : List Loc) : Prop := v = none ∧ Fr Z.heap.size L ∧ Keep h0 h [a] ∧ Exa Z h a "java/lang/String" ∧ Fld Z h a "java/lang/String" "coder" "B" (.int 0) ∧ ∃ (r : Addr) (kr : ClassId), h0.size ≤ r ∧ Fld Z h a "java/lang/String" "value" "[B" (.ref r) ∧ Arv Z h r kr .byte (Int32.ofNat n) (vs.take n) (.int 0)
theorem ef_strInitASB (m : MethodId) (a : Addr) (b : Addr) : entryFrame m #[(.ref a), (.ref b), .null] 5 = mkF m 0 #[vr a, vr b, .val .null, .unset, .unset] [] := by first | (simp [entryFrame, mkF, argsToLocals, Value.category, vi, vj, vr]; done) | rfl
theorem d_jdk_42_150_0 : decode jdk_42_method_150_code 0 = .ok (.aload_n 0, 1) := by decide +kernel
theorem d_jdk_42_150_1 : decode jdk_42_method_150_code 1 = .ok (.invokespecial 1, 3) := by decide +kernel
theorem d_jdk_42_150_4 : decode jdk_42_method_150_code 4 = .ok (.aload_n 1, 1) := by decide +kernel
theorem d_jdk_42_150_5 : decode jdk_42_method_150_code 5 = .ok (.invokevirtual 552, 3) := by decide +kernel
theorem pd_16 : parseMethodDescriptor "()[B" = some ⟨[], some (.array .byte)⟩ := by decide +kernel
theorem d_jdk_42_150_8 : decode jdk_42_method_150_code 8 = .ok (.astore_n 3, 1) := by decide +kernel
theorem d_jdk_42_150_9 : decode jdk_42_method_150_code 9 = .ok (.aload_n 1, 1) := by decide +kernel
theorem d_jdk_42_150_10 : decode jdk_42_method_150_code 10 = .ok (.invokevirtual 549, 3) := by decide +kernel
theorem d_jdk_42_150_13 : decode jdk_42_method_150_code 13 = .ok (.istore 4, 2) := by decide +kernel
theorem d_jdk_42_150_15 : decode jdk_42_method_150_code 15 = .ok (.aload_n 1, 1) := by decide +kernel
theorem d_jdk_42_150_16 : decode jdk_42_method_150_code 16 = .ok (.invokevirtual 1047, 3) := by decide +kernel
theorem d_jdk_42_150_19 : decode jdk_42_method_150_code 19 = .ok (.ifCond .eq 22, 3) := by decide +kernel
theorem d_jdk_42_150_22 : decode jdk_42_method_150_code 22 = .ok (.aload_n 0, 1) := by decide +kernel
theorem d_jdk_42_150_23 : decode jdk_42_method_150_code 23 = .ok (.iconst 0, 1) := by decide +kernel
theorem d_jdk_42_150_24 : decode jdk_42_method_150_code 24 = .ok (.putfield 15, 3) := by decide +kernel
theorem d_jdk_42_150_27 : decode jdk_42_method_150_code 27 = .ok (.aload_n 0, 1) := by decide +kernel
theorem d_jdk_42_150_28 : decode jdk_42_method_150_code 28 = .ok (.aload_n 3, 1) := by decide +kernel
theorem d_jdk_42_150_29 : decode jdk_42_method_150_code 29 = .ok (.iconst 0, 1) := by decide +kernel
theorem d_jdk_42_150_30 : decode jdk_42_method_150_code 30 = .ok (.iload 4, 2) := by decide +kernel
theorem d_jdk_42_150_32 : decode jdk_42_method_150_code 32 = .ok (.invokestatic 54, 3) := by decide +kernel
theorem d_jdk_42_150_35 : decode jdk_42_method_150_code 35 = .ok (.putfield 9, 3) := by decide +kernel
theorem d_jdk_42_150_38 : decode jdk_42_method_150_code 38 = .ok (.goto 59, 3) := by decide +kernel
theorem d_jdk_42_150_97 : decode jdk_42_method_150_code 97 = .ok (.return_, 1) := by decide +kernel
set_option maxRecDepth 65536 in
set_option maxHeartbeats 40000000 in
theorem rm_strInitASB (l : Launch) {Z : State} {a0 : Array Value} (hD : Wd Z a0) (a : Addr) (b : Addr) (t : Addr) (k : ClassId) (cN n : Nat) (vs : List Value) {h0 : Heap} (O0 : Ext Z.heap h0) (E_a : Exa Z h0 a "java/lang/String") (F_value_a : Fld Z h0 a "java/lang/String" "value" "[B" .null) (F_coder_a : Fld Z h0 a "java/lang/String" "coder" "B" (.int 0)) (ge_a : Z.heap.size ≤ a) (E_b : Exa Z h0 b "java/lang/StringBuilder") (F_coder_b : Fld Z h0 b "java/lang/AbstractStringBuilder" "coder" "B" (.int 0)) (F_count_b : Fld Z h0 b "java/lang/AbstractStringBuilder" "count" "I" (.int (Int32.ofNat n))) (F_value_b : Fld Z h0 b "java/lang/AbstractStringBuilder" "value" "[B" (.ref t)) (V_t : Arv Z h0 t k .byte (Int32.ofNat cN) vs (.int 0)) (hvs : vs.length = cN) (hcN : cN ≤ 4000) (hn : n < cN) (hcap : n ≤ 33) (ne_a_b : a ≠ b) (ne_a_t : a ≠ t) :
    Con l Z (⟨"java/lang/String", "<init>", "(Ljava/lang/AbstractStringBuilder;Ljava/lang/Void;)V"⟩ : MethodName) jdk_42_method_150_code 5 none [] ({ frames := 3, cells := 1, slots := 33, locals := 49 } : Room) #[(.ref a), (.ref b), .null] h0 (Q_strInitASB Z a b t k cN n vs h0) := by
  refine Con.walk (plainFor_of_name pn_0) ?_
  intro p e s m below meth c T0 X0 hx hZ hby hml hown hnm hret hlk e0
  obtain ⟨hw, ⟨cz, S_CS, hcz⟩, ⟨sf, S_SF, hsf⟩, ⟨d1, d2, kd1, kd2, S_D1, S_D2, V_D1, V_D2⟩⟩ := id hD
  have N0 := Fr.nil Z.heap.size
  have K0 : Keep h0 h0 [a] := Keep.refl _ _
  refine OEnds.cast (ef_strInitASB m a b) ?_
  refine OEnds.st (S' := T0.setTop (mkF m 1 #[vr a, vr b, .val .null, .unset, .unset] [(.ref a)])) (fun _ k => ?_) ?_
  · refine XS.aloadN X0.here hx rfl (hb hby d_jdk_42_150_0) rfl rfl ?_
    exact k
  obtain ⟨T1, X1, e1, st1⟩ := initO X0 hx hZ hown (wq hw 11 rfl) (wq hw 12 rfl) (wq hw 13 rfl) e0 (g := (mkF m 1 #[vr a, vr b, .val .null, .unset, .unset] [(.ref a)])) rfl (by rw [hml]; rfl) rfl (hb hby d_jdk_42_150_1) (by decide) (W := 0) (by show 2 * 0 + _ ≤ _; exact Nat.le_of_eq rfl) (by decide)
  refine OEnds.st st1 ?_
  refine OEnds.st (S' := T1.setTop (mkF m 5 #[vr a, vr b, .val .null, .unset, .unset] [(.ref b)])) (fun _ k => ?_) ?_
  · refine XS.aloadN X1.here hx rfl (hb hby d_jdk_42_150_4) rfl rfl ?_
    exact k
  obtain ⟨_, T2, h2, L2, X2, e2, hQ2, st2⟩ := virtC X1 hx hZ (y := (⟨"java/lang/AbstractStringBuilder", "getValue", "()[B"⟩ : MethodName)) (z := (⟨"java/lang/AbstractStringBuilder", "getValue", "()[B"⟩ : MethodName)) hown (wq hw 168 rfl) (wq hw 169 rfl) (nf_sel (args := #[]) (mvT hZ (wq hw 88 rfl)) rfl) (wq hw 171 rfl) (wq hw 170 rfl) (by decide) (kc := 0) (ks := 0) (Con.sb (W := 0) (rm_getValue l hD b t O0 F_value_b) hZ (wq hw 172 rfl) (wq hw 53 rfl) (by decide) (by decide)) e1 E_b (g := (mkF m 5 #[vr a, vr b, .val .null, .unset, .unset] [(.ref b)])) rfl (by rw [hml]; rfl) (argsL := []) (rest := []) (lenOf pd_16 rfl) rfl (by show 2 * 0 + _ ≤ _; exact Nat.le_of_eq rfl) (hb hby d_jdk_42_150_5) (by decide) (by decide)
  obtain ⟨rfl, Nq2, Hq2⟩ := hQ2
  refine OEnds.st st2 ?_
  replace N0 := Fr.app N0 Nq2
  replace e2 := e2.trans Hq2
  refine OEnds.st (S' := T2.setTop (mkF m 10 #[vr a, vr b, .val .null, vr t, .unset] [(.ref b)])) (fun _ k => ?_) ?_
  · refine XS.astoreN X2.here hx rfl (hb hby d_jdk_42_150_8) rfl rfl (l' := #[vr a, vr b, .val .null, vr t, .unset]) rfl ?_
    refine XS.aloadN X2.here hx rfl (hb hby d_jdk_42_150_9) rfl rfl ?_
    exact k
  obtain ⟨_, T3, h3, L3, X3, e3, hQ3, st3⟩ := virtC X2 hx hZ (y := (⟨"java/lang/AbstractStringBuilder", "length", "()I"⟩ : MethodName)) (z := (⟨"java/lang/StringBuilder", "length", "()I"⟩ : MethodName)) hown (wq hw 173 rfl) (wq hw 174 rfl) (nf_sel (args := #[]) (mvT hZ (wq hw 88 rfl)) rfl) (wq hw 176 rfl) (wq hw 177 rfl) (by decide) (kc := 0) (ks := 0) (Con.sb (W := 0) (rm_sbLen l hD b (Int32.ofNat n) O0 E_b F_count_b) hZ (wq hw 178 rfl) (wq hw 45 rfl) (by decide) (by decide)) e2 E_b (g := (mkF m 10 #[vr a, vr b, .val .null, vr t, .unset] [(.ref b)])) rfl (by rw [hml]; rfl) (argsL := []) (rest := []) (lenOf pd_4 rfl) rfl (by show 2 * 0 + _ ≤ _; exact Nat.le_of_eq rfl) (hb hby d_jdk_42_150_10) (by decide) (by decide)
  obtain ⟨rfl, Nq3, Hq3⟩ := hQ3
  refine OEnds.st st3 ?_
  replace N0 := Fr.app N0 Nq3
  replace e3 := e3.trans Hq3
  refine OEnds.st (S' := T3.setTop (mkF m 16 #[vr a, vr b, .val .null, vr t, vi (Int32.ofNat n)] [(.ref b)])) (fun _ k => ?_) ?_
  · refine XS.istore X3.here hx rfl (hb hby d_jdk_42_150_13) rfl (l' := #[vr a, vr b, .val .null, vr t, vi (Int32.ofNat n)]) rfl ?_
    refine XS.aloadN X3.here hx rfl (hb hby d_jdk_42_150_15) rfl rfl ?_
    exact k
  obtain ⟨_, T4, h4, L4, X4, e4, hQ4, st4⟩ := virtC X3 hx hZ (y := (⟨"java/lang/AbstractStringBuilder", "isLatin1", "()Z"⟩ : MethodName)) (z := (⟨"java/lang/AbstractStringBuilder", "isLatin1", "()Z"⟩ : MethodName)) hown (wq hw 181 rfl) (wq hw 124 rfl) (nf_sel (args := #[]) (mvT hZ (wq hw 88 rfl)) rfl) (wq hw 126 rfl) (wq hw 125 rfl) (by decide) (kc := 0) (ks := 0) (Con.sb (W := 0) (rm_isLat l hD b O0 F_coder_b) hZ (wq hw 127 rfl) (wq hw 53 rfl) (by decide) (by decide)) e3 E_b (g := (mkF m 16 #[vr a, vr b, .val .null, vr t, vi (Int32.ofNat n)] [(.ref b)])) rfl (by rw [hml]; rfl) (argsL := []) (rest := []) (lenOf pd_11 rfl) rfl (by show 2 * 0 + _ ≤ _; exact Nat.le_of_eq rfl) (hb hby d_jdk_42_150_16) (by decide) (by decide)
  obtain ⟨rfl, Nq4, Hq4⟩ := hQ4
  refine OEnds.st st4 ?_
  replace N0 := Fr.app N0 Nq4
  replace e4 := e4.trans Hq4
  refine OEnds.st (S' := T4.setTop (mkF m 24 #[vr a, vr b, .val .null, vr t, vi (Int32.ofNat n)] [(.int 0), (.ref a)])) (fun _ k => ?_) ?_
  · refine XS.ifNo X4.here hx rfl (hb hby d_jdk_42_150_19) rfl ((if0 _ _).trans (feq (by decide)).1) ?_
    refine XS.aloadN X4.here hx rfl (hb hby d_jdk_42_150_22) rfl rfl ?_
    refine XS.iconst X4.here hx rfl (hb hby d_jdk_42_150_23) ?_
    exact k
  obtain ⟨T5, h5, X5, e5, W5, st5⟩ := putF X4 hx hZ hown (host := "") (Or.inl (wq hw 21 rfl)) Via.refl e4 F_coder_a E_a (Or.inr ⟨(wq hw 17 rfl), rfl, hnm⟩) (wq hw 2 rfl) (ty := .byte) (by decide) rfl rfl (g := (mkF m 24 #[vr a, vr b, .val .null, vr t, vi (Int32.ofNat n)] [(.int 0), (.ref a)])) rfl rfl (hb hby d_jdk_42_150_24)
  refine OEnds.st st5 ?_
  replace E_a := E_a.wr W5
  replace F_value_a := F_value_a.other W5 (Or.inr (slot_ne (Or.inr (wq hw 16 rfl)) (Or.inr (wq hw 17 rfl)) (by decide) (t := (.array .byte)) (t' := .byte) (by decide) (by decide)))
  replace F_coder_a := F_coder_a.same W5
  replace E_b := E_b.wr W5
  replace F_coder_b := F_coder_b.other W5 (Or.inl (Ne.symm ne_a_b))
  replace F_count_b := F_count_b.other W5 (Or.inl (Ne.symm ne_a_b))
  replace F_value_b := F_value_b.other W5 (Or.inl (Ne.symm ne_a_b))
  replace V_t := V_t.other W5 (Ne.symm ne_a_t)
  replace O0 : Ext Z.heap h5 := ext_wr O0 W5 ge_a
  replace N0 := Fr.snoc X5 N0 ge_a
  replace K0 : Keep h0 h5 [a] := K0.wr W5 (Or.inl (List.mem_of_getElem? (i := 0) rfl))
  refine OEnds.st (S' := T5.setTop (mkF m 32 #[vr a, vr b, .val .null, vr t, vi (Int32.ofNat n)] [(.int (Int32.ofNat n)), (.int 0), (.ref t), (.ref a)])) (fun _ k => ?_) ?_
  · refine XS.aloadN X5.here hx rfl (hb hby d_jdk_42_150_27) rfl rfl ?_
    refine XS.aloadN X5.here hx rfl (hb hby d_jdk_42_150_28) rfl rfl ?_
    refine XS.iconst X5.here hx rfl (hb hby d_jdk_42_150_29) ?_
    refine XS.iload X5.here hx rfl (hb hby d_jdk_42_150_30) rfl ?_
    exact k
  obtain ⟨_, T6, h6, L6, X6, e6, hQ6, st6⟩ := callC X5 hx hZ hown (wq hw 182 rfl) (wq hw 183 rfl) (wq hw 150 rfl) (wq hw 184 rfl) (by decide) (kc := 1) (ks := 33) (Con.sb (W := 1) (rm_copyOR l hD t k cN n vs O0 V_t hvs hcN hn hcap) hZ (wq hw 184 rfl) (wq hw 150 rfl) (by decide) (by decide)) e5 (g := (mkF m 32 #[vr a, vr b, .val .null, vr t, vi (Int32.ofNat n)] [(.int (Int32.ofNat n)), (.int 0), (.ref t), (.ref a)])) rfl (by rw [hml]; rfl) (argsL := [(.ref t), (.int 0), (.int (Int32.ofNat n))]) (rest := [(.ref a)]) (lenOf pd_15 rfl) rfl (by show 2 * 0 + _ ≤ _; exact Nat.le_of_eq rfl) (hb hby d_jdk_42_150_32) (by decide) (by decide)
  obtain ⟨r6, kr6, rfl, Nq6, Kq6, szq6, V6⟩ := hQ6
  refine OEnds.st st6 ?_
  replace N0 := Fr.app N0 Nq6
  have ne_a_r6 : a ≠ r6 := Nat.ne_of_lt (Nat.lt_of_lt_of_le E_a.lt szq6)
  have ne_b_r6 : b ≠ r6 := Nat.ne_of_lt (Nat.lt_of_lt_of_le E_b.lt szq6)
  have ne_t_r6 : t ≠ r6 := Nat.ne_of_lt (Nat.lt_of_lt_of_le V_t.lt szq6)
  have ge_r6 : Z.heap.size ≤ r6 := Nat.le_trans O0.1 szq6
  have sz_r6 : h0.size ≤ r6 := Nat.le_trans K0.1 szq6
  replace E_a := E_a.keep Kq6
  replace F_value_a := F_value_a.keep Kq6 nin0
  replace F_coder_a := F_coder_a.keep Kq6 nin0
  replace E_b := E_b.keep Kq6
  replace F_coder_b := F_coder_b.keep Kq6 nin0
  replace F_count_b := F_count_b.keep Kq6 nin0
  replace F_value_b := F_value_b.keep Kq6 nin0
  replace V_t := V_t.keep Kq6 nin0
  replace O0 : Ext Z.heap h6 := ext_keep O0 Kq6 all0
  replace K0 : Keep h0 h6 [a] := K0.trans Kq6 all0
  obtain ⟨T7, h7, X7, e7, W7, st7⟩ := putF X6 hx hZ hown (host := "") (Or.inl (wq hw 20 rfl)) Via.refl e6 F_value_a E_a (Or.inr ⟨(wq hw 16 rfl), rfl, hnm⟩) (wq hw 2 rfl) (ty := (.array .byte)) (by decide) rfl rfl (g := (mkF m 35 #[vr a, vr b, .val .null, vr t, vi (Int32.ofNat n)] [(.ref r6), (.ref a)])) rfl rfl (hb hby d_jdk_42_150_35)
  refine OEnds.st st7 ?_
  replace E_a := E_a.wr W7
  replace F_value_a := F_value_a.same W7
  replace F_coder_a := F_coder_a.other W7 (Or.inr (slot_ne (Or.inr (wq hw 17 rfl)) (Or.inr (wq hw 16 rfl)) (by decide) (t := .byte) (t' := (.array .byte)) (by decide) (by decide)))
  replace E_b := E_b.wr W7
  replace F_coder_b := F_coder_b.other W7 (Or.inl (Ne.symm ne_a_b))
  replace F_count_b := F_count_b.other W7 (Or.inl (Ne.symm ne_a_b))
  replace F_value_b := F_value_b.other W7 (Or.inl (Ne.symm ne_a_b))
  replace V_t := V_t.other W7 (Ne.symm ne_a_t)
  replace V6 := V6.other W7 (Ne.symm ne_a_r6)
  replace O0 : Ext Z.heap h7 := ext_wr O0 W7 ge_a
  replace N0 := Fr.snoc X7 N0 ge_a
  replace K0 : Keep h0 h7 [a] := K0.wr W7 (Or.inl (List.mem_of_getElem? (i := 0) rfl))
  refine OEnds.st (S' := T7.setTop (mkF m 97 #[vr a, vr b, .val .null, vr t, vi (Int32.ofNat n)] [])) (fun _ k => ?_) ?_
  · refine XS.goto X7.here hx rfl (pc0 := 38) (pc' := 97) rfl (hb hby d_jdk_42_150_38) (by decide) (by decide) ?_
    exact k
  exact OEnds.retV X7 hx hret hlk (hb hby d_jdk_42_150_97) (by decide) (by decide) (by rw [e7]; exact ⟨rfl, N0, K0, E_a, F_coder_a, r6, _, sz_r6, F_value_a, V6⟩)
-- java/lang/String.<init>:(Ljava/lang/StringBuilder;)V
def Q_strInitSB (Z : State) (a : Addr) (b : Addr) (t : Addr) (k : ClassId) (cN n : Nat) (vs : List Value) (h0 : Heap) (v : Option Value) (h : Heap) (L : List Loc) : Prop := v = none ∧ Fr Z.heap.size L ∧ Keep h0 h [a] ∧ Exa Z h a "java/lang/String" ∧ Fld Z h a "java/lang/String" "coder" "B" (.int 0) ∧ ∃ (r : Addr) (kr : ClassId), h0.size ≤ r ∧ Fld Z h a "java/lang/String" "value" "[B" (.ref r) ∧ Arv Z h r kr .byte (Int32.ofNat n) (vs.take n) (.int 0)
theorem ef_strInitSB (m : MethodId) (a : Addr) (b : Addr) : entryFrame m #[(.ref a), (.ref b)] 2 = mkF m 0 #[vr a, vr b] [] := by first | (simp [entryFrame, mkF, argsToLocals, Value.category, vi, vj, vr]; done) | rfl
theorem d_jdk_42_53_0 : decode jdk_42_method_53_code 0 = .ok (.aload_n 0, 1) := by decide +kernel
theorem d_jdk_42_53_1 : decode jdk_42_method_53_code 1 = .ok (.aload_n 1, 1) := by decide +kernel
theorem d_jdk_42_53_2 : decode jdk_42_method_53_code 2 = .ok (.aconst_null, 1) := by decide +kernel
theorem d_jdk_42_53_3 : decode jdk_42_method_53_code 3 = .ok (.invokespecial 489, 3) := by decide +kernel
theorem pd_17 : parseMethodDescriptor "(Ljava/lang/AbstractStringBuilder;Ljava/lang/Void;)V" = some ⟨[(.object "java/lang/AbstractStringBuilder"), (.object "java/lang/Void")], none⟩ := by decide +kernel
theorem d_jdk_42_53_6 : decode jdk_42_method_53_code 6 = .ok (.return_, 1) := by decide +kernel
set_option maxRecDepth 65536 in
set_option maxHeartbeats 40000000 in
theorem rm_strInitSB (l : Launch) {Z : State} {a0 : Array Value} (hD : Wd Z a0) (a : Addr) (b : Addr) (t : Addr) (k : ClassId) (cN n : Nat) (vs : List Value) {h0 : Heap} (O0 : Ext Z.heap h0) (E_a : Exa Z h0 a "java/lang/String") (F_value_a : Fld Z h0 a "java/lang/String" "value" "[B" .null) (F_coder_a : Fld Z h0 a "java/lang/String" "coder" "B" (.int 0)) (ge_a : Z.heap.size ≤ a) (E_b : Exa Z h0 b "java/lang/StringBuilder") (F_coder_b : Fld Z h0 b "java/lang/AbstractStringBuilder" "coder" "B" (.int 0)) (F_count_b : Fld Z h0 b "java/lang/AbstractStringBuilder" "count" "I" (.int (Int32.ofNat n))) (F_value_b : Fld Z h0 b "java/lang/AbstractStringBuilder" "value" "[B" (.ref t)) (V_t : Arv Z h0 t k .byte (Int32.ofNat cN) vs (.int 0)) (hvs : vs.length = cN) (hcN : cN ≤ 4000) (hn : n < cN) (hcap : n ≤ 33) (ne_a_b : a ≠ b) (ne_a_t : a ≠ t) :
    Con l Z (⟨"java/lang/String", "<init>", "(Ljava/lang/StringBuilder;)V"⟩ : MethodName) jdk_42_method_53_code 2 none [] ({ frames := 4, cells := 1, slots := 33, locals := 65 } : Room) #[(.ref a), (.ref b)] h0 (Q_strInitSB Z a b t k cN n vs h0) := by
  refine Con.walk (plainFor_of_name pn_0) ?_
  intro p e s m below meth c T0 X0 hx hZ hby hml hown hnm hret hlk e0
  obtain ⟨hw, ⟨cz, S_CS, hcz⟩, ⟨sf, S_SF, hsf⟩, ⟨d1, d2, kd1, kd2, S_D1, S_D2, V_D1, V_D2⟩⟩ := id hD
  have N0 := Fr.nil Z.heap.size
  have K0 : Keep h0 h0 [a] := Keep.refl _ _
  refine OEnds.cast (ef_strInitSB m a b) ?_
  refine OEnds.st (S' := T0.setTop (mkF m 3 #[vr a, vr b] [.null, (.ref b), (.ref a)])) (fun _ k => ?_) ?_
  · refine XS.aloadN X0.here hx rfl (hb hby d_jdk_42_53_0) rfl rfl ?_
    refine XS.aloadN X0.here hx rfl (hb hby d_jdk_42_53_1) rfl rfl ?_
    refine XS.aconstNull X0.here hx rfl (hb hby d_jdk_42_53_2) ?_
    exact k
  obtain ⟨_, T1, h1, L1, X1, e1, hQ1, st1⟩ := specC X0 hx hZ rfl hown (wq hw 165 rfl) (wq hw 166 rfl) (wq hw 167 rfl) (by decide) (kc := 1) (ks := 33) (Con.sb (W := 0) (rm_strInitASB l hD a b t k cN n vs O0 E_a F_value_a F_coder_a ge_a E_b F_coder_b F_count_b F_value_b V_t hvs hcN hn hcap ne_a_b ne_a_t) hZ (wq hw 167 rfl) (wq hw 3 rfl) (by decide) (by decide)) e0 (a := a) (g := (mkF m 3 #[vr a, vr b] [.null, (.ref b), (.ref a)])) rfl (by rw [hml]; rfl) (argsL := [(.ref b), .null]) (rest := []) (lenOf pd_17 rfl) rfl (by show 2 * 0 + _ ≤ _; exact Nat.le_of_eq rfl) (hb hby d_jdk_42_53_3) (by decide) (by decide)
  obtain ⟨rfl, Nq1, Kq1, Eq1, Fc1, r1, kr1, szq1, Fv1, V1⟩ := hQ1
  refine OEnds.st st1 ?_
  replace N0 := Fr.app N0 Nq1
  replace E_a := E_a.keep Kq1
  replace E_b := E_b.keep Kq1
  replace F_coder_b := F_coder_b.keep Kq1 (ninS (Ne.symm ne_a_b) nin0)
  replace F_count_b := F_count_b.keep Kq1 (ninS (Ne.symm ne_a_b) nin0)
  replace F_value_b := F_value_b.keep Kq1 (ninS (Ne.symm ne_a_b) nin0)
  replace V_t := V_t.keep Kq1 (ninS (Ne.symm ne_a_t) nin0)
  replace O0 : Ext Z.heap h1 := ext_keep O0 Kq1 (allS ge_a all0)
  replace K0 : Keep h0 h1 [a] := K0.trans Kq1 (allS (Or.inl (List.mem_of_getElem? (i := 0) rfl)) all0)
  exact OEnds.retV X1 hx hret hlk (hb hby d_jdk_42_53_6) (by decide) (by decide) (by rw [e1]; exact ⟨rfl, N0, K0, Eq1, Fc1, r1, kr1, szq1, Fv1, V1⟩)
-- java/lang/StringBuilder.toString:()Ljava/lang/String;
def Q_sbToStr (Z : State) (b : Addr) (t : Addr) (k : ClassId) (cN n : Nat) (vs : List Value) (h0 : Heap) (v : Option Value) (h : Heap) (L : List Loc) : Prop := ∃ (a r : Addr) (kr : ClassId), v = some (.ref a) ∧ Fr Z.heap.size L ∧ Keep h0 h [] ∧ h0.size ≤ a ∧ h0.size ≤ r ∧ a ≠ r ∧ Exa Z h a "java/lang/String" ∧ Fld Z h a "java/lang/String" "coder" "B" (.int 0) ∧ Fld Z h a "java/lang/String" "value" "[B" (.ref r) ∧ Arv Z h r kr .byte (Int32.ofNat n) (vs.take n) (.int 0)
theorem ef_sbToStr (m : MethodId) (b : Addr) : entryFrame m #[(.ref b)] 1 = mkF m 0 #[vr b] [] := by first | (simp [entryFrame, mkF, argsToLocals, Value.category, vi, vj, vr]; done) | rfl
theorem d_jdk_67_42_0 : decode jdk_67_method_42_code 0 = .ok (.new 18, 3) := by decide +kernel
theorem d_jdk_67_42_3 : decode jdk_67_method_42_code 3 = .ok (.dup, 1) := by decide +kernel
theorem d_jdk_67_42_4 : decode jdk_67_method_42_code 4 = .ok (.aload_n 0, 1) := by decide +kernel
theorem d_jdk_67_42_5 : decode jdk_67_method_42_code 5 = .ok (.invokespecial 137, 3) := by decide +kernel
theorem pd_18 : parseMethodDescriptor "(Ljava/lang/StringBuilder;)V" = some ⟨[(.object "java/lang/StringBuilder")], none⟩ := by decide +kernel
theorem d_jdk_67_42_8 : decode jdk_67_method_42_code 8 = .ok (.areturn, 1) := by decide +kernel
set_option maxRecDepth 65536 in
set_option maxHeartbeats 40000000 in
theorem rm_sbToStr (l : Launch) {Z : State} {a0 : Array Value} (hD : Wd Z a0) (b : Addr) (t : Addr) (k : ClassId) (cN n : Nat) (vs : List Value) {h0 : Heap} (O0 : Ext Z.heap h0) (E_b : Exa Z h0 b "java/lang/StringBuilder") (F_coder_b : Fld Z h0 b "java/lang/AbstractStringBuilder" "coder" "B" (.int 0)) (F_count_b : Fld Z h0 b "java/lang/AbstractStringBuilder" "count" "I" (.int (Int32.ofNat n))) (F_value_b : Fld Z h0 b "java/lang/AbstractStringBuilder" "value" "[B" (.ref t)) (V_t : Arv Z h0 t k .byte (Int32.ofNat cN) vs (.int 0)) (hvs : vs.length = cN) (hcN : cN ≤ 4000) (hn : n < cN) (hcap : n ≤ 33) :
    Con l Z (⟨"java/lang/StringBuilder", "toString", "()Ljava/lang/String;"⟩ : MethodName) jdk_67_method_42_code 1 (some (.object "java/lang/String")) [] ({ frames := 5, cells := 2, slots := 37, locals := 79 } : Room) #[(.ref b)] h0 (Q_sbToStr Z b t k cN n vs h0) := by
  refine Con.walk (plainFor_of_name pn_3) ?_
  intro p e s m below meth c T0 X0 hx hZ hby hml hown hnm hret hlk e0
  obtain ⟨hw, ⟨cz, S_CS, hcz⟩, ⟨sf, S_SF, hsf⟩, ⟨d1, d2, kd1, kd2, S_D1, S_D2, V_D1, V_D2⟩⟩ := id hD
  have N0 := Fr.nil Z.heap.size
  have K0 : Keep h0 h0 [] := Keep.refl _ _
  refine OEnds.cast (ef_sbToStr m b) ?_
  obtain ⟨T1, h1, X1, e1, E1, A1, D1, U1, st1⟩ := newO X0 hx hZ hown (wq hw 161 rfl) (wq hw 2 rfl) (wq hw 3 rfl) e0 (g := (mkF m 0 #[vr b] [])) rfl (hb hby d_jdk_67_42_0) (by decide) (by decide)
  obtain ⟨b1, g1⟩ : ∃ z, z = h0.size := ⟨_, rfl⟩
  rw [← g1] at A1 D1 U1 st1
  refine OEnds.st st1 ?_
  have ne_b_b1 : b ≠ b1 := Nat.ne_of_lt (Nat.lt_of_lt_of_le E_b.lt (Nat.le_of_eq g1.symm))
  have ne_t_b1 : t ≠ b1 := Nat.ne_of_lt (Nat.lt_of_lt_of_le V_t.lt (Nat.le_of_eq g1.symm))
  have ge_b1 : Z.heap.size ≤ b1 := Nat.le_trans O0.1 (Nat.le_of_eq g1.symm)
  have sz_b1 : h0.size ≤ b1 := Nat.le_trans K0.1 (Nat.le_of_eq g1.symm)
  replace E_b := E_b.ext E1
  replace F_coder_b := F_coder_b.ext E1
  replace F_count_b := F_count_b.ext E1
  replace F_value_b := F_value_b.ext E1
  replace V_t := V_t.ext E1
  replace O0 : Ext Z.heap h1 := ext_trans O0 E1
  replace K0 : Keep h0 h1 [] := K0.ext E1
  have F_value_b1 : Fld Z h1 b1 "java/lang/String" "value" "[B" .null := D1 (Or.inr (wq hw 16 rfl)) (ty := (.array .byte)) (by decide)
  have F_coder_b1 : Fld Z h1 b1 "java/lang/String" "coder" "B" (.int 0) := D1 (Or.inr (wq hw 17 rfl)) (ty := .byte) (by decide)
  refine OEnds.st (S' := T1.setTop (mkF m 5 #[vr b] [(.ref b), (.ref b1), (.ref b1)])) (fun _ k => ?_) ?_
  · refine XS.dup X1.here hx rfl (hb hby d_jdk_67_42_3) rfl rfl ?_
    refine XS.aloadN X1.here hx rfl (hb hby d_jdk_67_42_4) rfl rfl ?_
    exact k
  have lt_b1 := A1.lt
  obtain ⟨_, T2, h2, L2, X2, e2, hQ2, st2⟩ := specC X1 hx hZ rfl hown (wq hw 162 rfl) (wq hw 163 rfl) (wq hw 164 rfl) (by decide) (kc := 1) (ks := 33) (Con.sb (W := 1) (rm_strInitSB l hD b1 b t k cN n vs O0 A1 F_value_b1 F_coder_b1 ge_b1 E_b F_coder_b F_count_b F_value_b V_t hvs hcN hn hcap (Ne.symm ne_b_b1) (Ne.symm ne_t_b1)) hZ (wq hw 164 rfl) (wq hw 3 rfl) (by decide) (by decide)) e1 (a := b1) (g := (mkF m 5 #[vr b] [(.ref b), (.ref b1), (.ref b1)])) rfl (by rw [hml]; rfl) (argsL := [(.ref b)]) (rest := [(.ref b1)]) (lenOf pd_18 rfl) rfl (by show 2 * 0 + _ ≤ _; exact Nat.le_of_eq rfl) (hb hby d_jdk_67_42_5) (by decide) (by decide)
  obtain ⟨rfl, Nq2, Kq2, Eq2, Fc2, r2, kr2, szq2, Fv2, V2⟩ := hQ2
  refine OEnds.st st2 ?_
  replace N0 := Fr.app N0 Nq2
  have ne_b_r2 : b ≠ r2 := Nat.ne_of_lt (Nat.lt_of_lt_of_le E_b.lt szq2)
  have ne_b1_r2 : b1 ≠ r2 := Nat.ne_of_lt (Nat.lt_of_lt_of_le A1.lt szq2)
  have ne_t_r2 : t ≠ r2 := Nat.ne_of_lt (Nat.lt_of_lt_of_le V_t.lt szq2)
  have ge_r2 : Z.heap.size ≤ r2 := Nat.le_trans O0.1 szq2
  have sz_r2 : h0.size ≤ r2 := Nat.le_trans K0.1 szq2
  replace E_b := E_b.keep Kq2
  replace F_coder_b := F_coder_b.keep Kq2 (ninS ne_b_b1 nin0)
  replace F_count_b := F_count_b.keep Kq2 (ninS ne_b_b1 nin0)
  replace F_value_b := F_value_b.keep Kq2 (ninS ne_b_b1 nin0)
  replace V_t := V_t.keep Kq2 (ninS ne_t_b1 nin0)
  replace A1 := A1.keep Kq2
  replace O0 : Ext Z.heap h2 := ext_keep O0 Kq2 (allS ge_b1 all0)
  replace K0 : Keep h0 h2 [] := K0.trans Kq2 (allS (Or.inr sz_b1) all0)
  exact OEnds.ret X2 hx hret hlk rfl (Or.inr (Or.inr (Or.inr (Or.inr ⟨rfl, rfl, rfl⟩)))) (hb hby d_jdk_67_42_8) (by decide) (by decide) (by rw [e2]; exact ⟨b1, r2, kr2, rfl, N0, K0, sz_b1, sz_r2, (Nat.ne_of_lt (Nat.lt_of_lt_of_le lt_b1 szq2)), Eq2, Fc2, Fv2, V2⟩)
-- com/example/wire_to_worker/wiretoworker/broker/QueueName.<init>:(Ljava/lang/String;I)V
def Q_qnInit (Z : State) (a : Addr) (tp : Addr) (x : Int32) (h0 : Heap) (v : Option Value) (h : Heap) (L : List Loc) : Prop := v = none ∧ Fr Z.heap.size L ∧ Keep h0 h [a] ∧ Exa Z h a "com/example/wire_to_worker/wiretoworker/broker/QueueName" ∧ Fld Z h a "com/example/wire_to_worker/wiretoworker/broker/QueueName" "topic" "Ljava/lang/String;" (.ref tp) ∧ Fld Z h a "com/example/wire_to_worker/wiretoworker/broker/QueueName" "queueId" "I" (.int x)
theorem ef_qnInit (m : MethodId) (a : Addr) (tp : Addr) (x : Int32) : entryFrame m #[(.ref a), (.ref tp), (.int x)] 3 = mkF m 0 #[vr a, vr tp, vi x] [] := by first | (simp [entryFrame, mkF, argsToLocals, Value.category, vi, vj, vr]; done) | rfl
theorem pn_7 : plainName "com/example/wire_to_worker/wiretoworker/broker/QueueName" = true := by first | (simp [plainName, overriddenIn]; done) | decide +kernel
theorem d_prog_5_1_0 : decode prog_5_method_1_code 0 = .ok (.aload_n 0, 1) := by decide +kernel
theorem d_prog_5_1_1 : decode prog_5_method_1_code 1 = .ok (.invokespecial 1, 3) := by decide +kernel
theorem pd_19 : parseMethodDescriptor "()V" = some ⟨[], none⟩ := by decide +kernel
theorem d_prog_5_1_4 : decode prog_5_method_1_code 4 = .ok (.aload_n 0, 1) := by decide +kernel
theorem d_prog_5_1_5 : decode prog_5_method_1_code 5 = .ok (.aload_n 1, 1) := by decide +kernel
theorem d_prog_5_1_6 : decode prog_5_method_1_code 6 = .ok (.putfield 7, 3) := by decide +kernel
theorem d_prog_5_1_9 : decode prog_5_method_1_code 9 = .ok (.aload_n 0, 1) := by decide +kernel
theorem d_prog_5_1_10 : decode prog_5_method_1_code 10 = .ok (.iload_n 2, 1) := by decide +kernel
theorem d_prog_5_1_11 : decode prog_5_method_1_code 11 = .ok (.putfield 13, 3) := by decide +kernel
theorem d_prog_5_1_14 : decode prog_5_method_1_code 14 = .ok (.return_, 1) := by decide +kernel
set_option maxRecDepth 65536 in
set_option maxHeartbeats 40000000 in
theorem rm_qnInit (l : Launch) {Z : State} {a0 : Array Value} (hD : Wd Z a0) (a : Addr) (tp : Addr) (x : Int32) {h0 : Heap} (O0 : Ext Z.heap h0) (E_a : Exa Z h0 a "com/example/wire_to_worker/wiretoworker/broker/QueueName") (F_topic_a : Fld Z h0 a "com/example/wire_to_worker/wiretoworker/broker/QueueName" "topic" "Ljava/lang/String;" .null) (F_queueId_a : Fld Z h0 a "com/example/wire_to_worker/wiretoworker/broker/QueueName" "queueId" "I" (.int 0)) (ge_a : Z.heap.size ≤ a) :
    Con l Z (⟨"com/example/wire_to_worker/wiretoworker/broker/QueueName", "<init>", "(Ljava/lang/String;I)V"⟩ : MethodName) prog_5_method_1_code 3 none [] ({ frames := 2, cells := 0, slots := 0, locals := 24 } : Room) #[(.ref a), (.ref tp), (.int x)] h0 (Q_qnInit Z a tp x h0) := by
  refine Con.walk (plainFor_of_name pn_7) ?_
  intro p e s m below meth c T0 X0 hx hZ hby hml hown hnm hret hlk e0
  obtain ⟨hw, ⟨cz, S_CS, hcz⟩, ⟨sf, S_SF, hsf⟩, ⟨d1, d2, kd1, kd2, S_D1, S_D2, V_D1, V_D2⟩⟩ := id hD
  have N0 := Fr.nil Z.heap.size
  have K0 : Keep h0 h0 [a] := Keep.refl _ _
  refine OEnds.cast (ef_qnInit m a tp x) ?_
  refine OEnds.st (S' := T0.setTop (mkF m 1 #[vr a, vr tp, vi x] [(.ref a)])) (fun _ k => ?_) ?_
  · refine XS.aloadN X0.here hx rfl (hb hby d_prog_5_1_0) rfl rfl ?_
    exact k
  obtain ⟨_, T1, h1, L1, X1, e1, hQ1, st1⟩ := specC X0 hx hZ rfl hown (wq hw 28 rfl) (wq hw 29 rfl) (wq hw 32 rfl) (by decide) (kc := 0) (ks := 0) (Con.sb (W := 0) (rm_recInit l hD a O0) hZ (wq hw 32 rfl) (wq hw 31 rfl) (by decide) (by decide)) e0 (a := a) (g := (mkF m 1 #[vr a, vr tp, vi x] [(.ref a)])) rfl (by rw [hml]; rfl) (argsL := []) (rest := []) (lenOf pd_19 rfl) rfl (by show 2 * 0 + _ ≤ _; exact Nat.le_of_eq rfl) (hb hby d_prog_5_1_1) (by decide) (by decide)
  obtain ⟨rfl, Nq1, Hq1⟩ := hQ1
  refine OEnds.st st1 ?_
  replace N0 := Fr.app N0 Nq1
  replace e1 := e1.trans Hq1
  refine OEnds.st (S' := T1.setTop (mkF m 6 #[vr a, vr tp, vi x] [(.ref tp), (.ref a)])) (fun _ k => ?_) ?_
  · refine XS.aloadN X1.here hx rfl (hb hby d_prog_5_1_4) rfl rfl ?_
    refine XS.aloadN X1.here hx rfl (hb hby d_prog_5_1_5) rfl rfl ?_
    exact k
  obtain ⟨T2, h2, X2, e2, W2, st2⟩ := putF X1 hx hZ hown (host := "") (Or.inl (wq hw 34 rfl)) Via.refl e1 F_topic_a E_a (Or.inr ⟨(wq hw 35 rfl), rfl, hnm⟩) (wq hw 23 rfl) (ty := (.object "java/lang/String")) (by decide) rfl rfl (g := (mkF m 6 #[vr a, vr tp, vi x] [(.ref tp), (.ref a)])) rfl rfl (hb hby d_prog_5_1_6)
  refine OEnds.st st2 ?_
  replace E_a := E_a.wr W2
  replace F_topic_a := F_topic_a.same W2
  replace F_queueId_a := F_queueId_a.other W2 (Or.inr (slot_ne (Or.inr (wq hw 37 rfl)) (Or.inr (wq hw 35 rfl)) (by decide) (t := .int) (t' := (.object "java/lang/String")) (by decide) (by decide)))
  replace O0 : Ext Z.heap h2 := ext_wr O0 W2 ge_a
  replace N0 := Fr.snoc X2 N0 ge_a
  replace K0 : Keep h0 h2 [a] := K0.wr W2 (Or.inl (List.mem_of_getElem? (i := 0) rfl))
  refine OEnds.st (S' := T2.setTop (mkF m 11 #[vr a, vr tp, vi x] [(.int x), (.ref a)])) (fun _ k => ?_) ?_
  · refine XS.aloadN X2.here hx rfl (hb hby d_prog_5_1_9) rfl rfl ?_
    refine XS.iloadN X2.here hx rfl (hb hby d_prog_5_1_10) rfl ?_
    exact k
  obtain ⟨T3, h3, X3, e3, W3, st3⟩ := putF X2 hx hZ hown (host := "") (Or.inl (wq hw 36 rfl)) Via.refl e2 F_queueId_a E_a (Or.inr ⟨(wq hw 37 rfl), rfl, hnm⟩) (wq hw 23 rfl) (ty := .int) (by decide) rfl rfl (g := (mkF m 11 #[vr a, vr tp, vi x] [(.int x), (.ref a)])) rfl rfl (hb hby d_prog_5_1_11)
  refine OEnds.st st3 ?_
  replace E_a := E_a.wr W3
  replace F_topic_a := F_topic_a.other W3 (Or.inr (slot_ne (Or.inr (wq hw 35 rfl)) (Or.inr (wq hw 37 rfl)) (by decide) (t := (.object "java/lang/String")) (t' := .int) (by decide) (by decide)))
  replace F_queueId_a := F_queueId_a.same W3
  replace O0 : Ext Z.heap h3 := ext_wr O0 W3 ge_a
  replace N0 := Fr.snoc X3 N0 ge_a
  replace K0 : Keep h0 h3 [a] := K0.wr W3 (Or.inl (List.mem_of_getElem? (i := 0) rfl))
  exact OEnds.retV X3 hx hret hlk (hb hby d_prog_5_1_14) (by decide) (by decide) (by rw [e3]; exact ⟨rfl, N0, K0, E_a, F_topic_a, F_queueId_a⟩)
theorem by_q : bys [113, 117, 101, 117, 101, 32] = [(.int 113), (.int 117), (.int 101), (.int 117), (.int 101), (.int 32)] := by rfl
theorem by_o : bys [32, 111, 102, 32, 116, 111, 112, 105, 99, 32] = [(.int 32), (.int 111), (.int 102), (.int 32), (.int 116), (.int 111), (.int 112), (.int 105), (.int 99), (.int 32)] := by rfl
-- com/example/wire_to_worker/wiretoworker/broker/QueueName.toString:()Ljava/lang/String;
def Q_qnStr (Z : State) (a : Addr) (tp tt : Addr) (kt : ClassId) (x : Int32) (tn sg A d : Nat) (cs : List Int32) (h0 : Heap) (v : Option Value) (h : Heap) (L : List Loc) : Prop := ∃ r : Addr, v = some (.ref r) ∧ Fr Z.heap.size L ∧ Keep h0 h [] ∧ Exa Z h r "java/lang/String" ∧ Fld Z h r "java/lang/String" "coder" "B" (.int 0) ∧ ∃ (t : Addr) (kb : ClassId), Fld Z h r "java/lang/String" "value" "[B" (.ref t) ∧ Arv Z h t kb .byte (Int32.ofNat (qs sg A d cs).length) (bys (qs sg A d cs)) (.int 0)
theorem ef_qnStr (m : MethodId) (a : Addr) : entryFrame m #[(.ref a)] 1 = mkF m 0 #[vr a] [] := by first | (simp [entryFrame, mkF, argsToLocals, Value.category, vi, vj, vr]; done) | rfl
theorem d_prog_5_2_0 : decode prog_5_method_2_code 0 = .ok (.new 17, 3) := by decide +kernel
theorem d_prog_5_2_3 : decode prog_5_method_2_code 3 = .ok (.dup, 1) := by decide +kernel
theorem d_prog_5_2_4 : decode prog_5_method_2_code 4 = .ok (.invokespecial 19, 3) := by decide +kernel
theorem d_prog_5_2_7 : decode prog_5_method_2_code 7 = .ok (.ldc 20, 2) := by decide +kernel
theorem d_prog_5_2_9 : decode prog_5_method_2_code 9 = .ok (.invokevirtual 22, 3) := by decide +kernel
theorem pd_20 : parseMethodDescriptor "(Ljava/lang/String;)Ljava/lang/StringBuilder;" = some ⟨[(.object "java/lang/String")], some (.object "java/lang/StringBuilder")⟩ := by decide +kernel
theorem d_prog_5_2_12 : decode prog_5_method_2_code 12 = .ok (.aload_n 0, 1) := by decide +kernel
theorem d_prog_5_2_13 : decode prog_5_method_2_code 13 = .ok (.getfield 13, 3) := by decide +kernel
theorem d_prog_5_2_16 : decode prog_5_method_2_code 16 = .ok (.invokevirtual 26, 3) := by decide +kernel
theorem pd_21 : parseMethodDescriptor "(I)Ljava/lang/StringBuilder;" = some ⟨[.int], some (.object "java/lang/StringBuilder")⟩ := by decide +kernel
theorem d_prog_5_2_19 : decode prog_5_method_2_code 19 = .ok (.ldc 29, 2) := by decide +kernel
theorem d_prog_5_2_21 : decode prog_5_method_2_code 21 = .ok (.invokevirtual 22, 3) := by decide +kernel
theorem d_prog_5_2_24 : decode prog_5_method_2_code 24 = .ok (.aload_n 0, 1) := by decide +kernel
theorem d_prog_5_2_25 : decode prog_5_method_2_code 25 = .ok (.getfield 7, 3) := by decide +kernel
theorem d_prog_5_2_28 : decode prog_5_method_2_code 28 = .ok (.invokevirtual 22, 3) := by decide +kernel
theorem d_prog_5_2_31 : decode prog_5_method_2_code 31 = .ok (.invokevirtual 31, 3) := by decide +kernel
theorem pd_22 : parseMethodDescriptor "()Ljava/lang/String;" = some ⟨[], some (.object "java/lang/String")⟩ := by decide +kernel
theorem d_prog_5_2_34 : decode prog_5_method_2_code 34 = .ok (.areturn, 1) := by decide +kernel
set_option maxRecDepth 65536 in
set_option maxHeartbeats 40000000 in
theorem rm_qnStr (l : Launch) {Z : State} {a0 : Array Value} (hD : Wd Z a0) (a : Addr) (tp tt : Addr) (kt : ClassId) (x : Int32) (tn sg A d : Nat) (cs : List Int32) {h0 : Heap} (O0 : Ext Z.heap h0) (E_a : Exa Z h0 a "com/example/wire_to_worker/wiretoworker/broker/QueueName") (F_topic_a : Fld Z h0 a "com/example/wire_to_worker/wiretoworker/broker/QueueName" "topic" "Ljava/lang/String;" (.ref tp)) (F_queueId_a : Fld Z h0 a "com/example/wire_to_worker/wiretoworker/broker/QueueName" "queueId" "I" (.int x)) (E_tp : Exa Z h0 tp "java/lang/String") (F_coder_tp : Fld Z h0 tp "java/lang/String" "coder" "B" (.int 0)) (F_value_tp : Fld Z h0 tp "java/lang/String" "value" "[B" (.ref tt)) (V_tt : Arv Z h0 tt kt .byte (Int32.ofNat tn) (bys cs) (.int 0)) (hcs : cs.length = tn) (htn : tn ≤ 3) (hDig : Dig A d) (hS : (sg = 0 ∧ ¬ x < 0 ∧ A = x.toInt.toNat) ∨ (sg = 1 ∧ x < 0 ∧ A = (-x.toInt).toNat)) (hAb : A ≤ 2147483648) (hsg : sg ≤ 1) :
    ConH l Z EL (⟨"com/example/wire_to_worker/wiretoworker/broker/QueueName", "toString", "()Ljava/lang/String;"⟩ : MethodName) prog_5_method_2_code 1 (some (.object "java/lang/String")) [] ({ frames := 6, cells := 9, slots := 163, locals := 91 } : Room) #[(.ref a)] h0 [] (Q_qnStr Z a tp tt kt x tn sg A d cs h0) := by
  refine ConH.walk (plainFor_of_name pn_7) ?_
  intro p e s vm0 k0 m below meth c T0 X0 hS0 hk0 hx hZ hby hml hown hnm hret hlk e0 A0 hss
  obtain ⟨hw, ⟨cz, S_CS, hcz⟩, ⟨sf, S_SF, hsf⟩, ⟨d1, d2, kd1, kd2, S_D1, S_D2, V_D1, V_D2⟩⟩ := id hD
  have N0 := Fr.nil Z.heap.size
  have K0 : Keep h0 h0 [] := Keep.refl _ _
  have hEL : EW Z a0 EL := el_of hw
  have hsa : ∀ a ∈ Bundle.stringAtoms, a.before a0 Z = true := fun d hd => hw d (words_sa d hd)
  refine OEndsH.cast (ef_qnStr m a) ?_
  rcases Classical.em (6 + d + sg ≤ 16) with h9 | h9
  · have hd1 := hDig.1
    have hd10 := hDig.2.1
    obtain ⟨T1, h1, X1, e1, E1, A1, D1, U1, st1⟩ := newO X0 hx hZ hown (wq hw 43 rfl) (wq hw 44 rfl) (wq hw 45 rfl) e0 (g := (mkF m 0 #[vr a] [])) rfl (hb hby d_prog_5_2_0) (by decide) (by decide)
    obtain ⟨b1, g1⟩ : ∃ z, z = h0.size := ⟨_, rfl⟩
    rw [← g1] at A1 D1 U1 st1
    refine OEndsH.st st1 ?_
    have ne_a_b1 : a ≠ b1 := Nat.ne_of_lt (Nat.lt_of_lt_of_le E_a.lt (Nat.le_of_eq g1.symm))
    have ne_tp_b1 : tp ≠ b1 := Nat.ne_of_lt (Nat.lt_of_lt_of_le E_tp.lt (Nat.le_of_eq g1.symm))
    have ne_tt_b1 : tt ≠ b1 := Nat.ne_of_lt (Nat.lt_of_lt_of_le V_tt.lt (Nat.le_of_eq g1.symm))
    have ge_b1 : Z.heap.size ≤ b1 := Nat.le_trans O0.1 (Nat.le_of_eq g1.symm)
    have sz_b1 : h0.size ≤ b1 := Nat.le_trans K0.1 (Nat.le_of_eq g1.symm)
    have S_b1 : Safe Z EL vm0 h0 b1 := Safe.new (Nat.le_of_eq g1.symm)
    replace E_a := E_a.ext E1
    replace F_topic_a := F_topic_a.ext E1
    replace F_queueId_a := F_queueId_a.ext E1
    replace E_tp := E_tp.ext E1
    replace F_coder_tp := F_coder_tp.ext E1
    replace F_value_tp := F_value_tp.ext E1
    replace V_tt := V_tt.ext E1
    have S_b1' : Safe Z EL vm0 h1 b1 := Safe.ext E1 A0.1 S_b1
    have A' : CHr Z EL s.vm s.heap vm0 h1 := A0.trans (CHr.ext E1 A0.1)
    replace S_b1 := S_b1'
    replace A0 := A'
    replace hk0 := Nat.le_trans hk0 E1.1
    replace O0 : Ext Z.heap h1 := ext_trans O0 E1
    replace K0 : Keep h0 h1 [] := K0.ext E1
    have F_value_b1 : Fld Z h1 b1 "java/lang/AbstractStringBuilder" "value" "[B" .null := D1 (Or.inl (wq hw 58 rfl)) (ty := (.array .byte)) (by decide)
    have F_coder_b1 : Fld Z h1 b1 "java/lang/AbstractStringBuilder" "coder" "B" (.int 0) := D1 (Or.inl (wq hw 60 rfl)) (ty := .byte) (by decide)
    have F_count_b1 : Fld Z h1 b1 "java/lang/AbstractStringBuilder" "count" "I" (.int 0) := D1 (Or.inl (wq hw 84 rfl)) (ty := .int) (by decide)
    refine OEndsH.st (S' := T1.setTop (mkF m 4 #[vr a] [(.ref b1), (.ref b1)])) (fun _ k => ?_) ?_
    · refine XS.dup X1.here hx rfl (hb hby d_prog_5_2_3) rfl rfl ?_
      exact k
    obtain ⟨_, T2, h2, L2, X2, e2, hQ2, st2⟩ := specC X1 hx hZ rfl hown (wq hw 46 rfl) (wq hw 47 rfl) (wq hw 48 rfl) (by decide) (kc := 1) (ks := 16) (Con.sb (W := 1) (rm_sbInit l hD b1 O0 A1 F_coder_b1 F_count_b1 F_value_b1 ge_b1) hZ (wq hw 48 rfl) (wq hw 45 rfl) (by decide) (by decide)) e1 (a := b1) (g := (mkF m 4 #[vr a] [(.ref b1), (.ref b1)])) rfl (by rw [hml]; rfl) (argsL := []) (rest := [(.ref b1)]) (lenOf pd_19 rfl) rfl (by show 2 * 0 + _ ≤ _; exact Nat.le_of_eq rfl) (hb hby d_prog_5_2_4) (by decide) (by decide)
    obtain ⟨t2, k2, rfl, Nq2, Kq2, szq2, Eq2, Fc2, Fn2, Fv2, V2⟩ := hQ2
    refine OEndsH.st st2 ?_
    replace N0 := Fr.app N0 Nq2
    have ne_a_t2 : a ≠ t2 := Nat.ne_of_lt (Nat.lt_of_lt_of_le E_a.lt szq2)
    have ne_b1_t2 : b1 ≠ t2 := Nat.ne_of_lt (Nat.lt_of_lt_of_le A1.lt szq2)
    have ne_tp_t2 : tp ≠ t2 := Nat.ne_of_lt (Nat.lt_of_lt_of_le E_tp.lt szq2)
    have ne_tt_t2 : tt ≠ t2 := Nat.ne_of_lt (Nat.lt_of_lt_of_le V_tt.lt szq2)
    have ge_t2 : Z.heap.size ≤ t2 := Nat.le_trans O0.1 szq2
    have S_t2 : Safe Z EL vm0 h1 t2 := Safe.new szq2
    have sz_t2 : h0.size ≤ t2 := Nat.le_trans K0.1 szq2
    replace E_a := E_a.keep Kq2
    replace F_topic_a := F_topic_a.keep Kq2 (ninS ne_a_b1 nin0)
    replace F_queueId_a := F_queueId_a.keep Kq2 (ninS ne_a_b1 nin0)
    replace E_tp := E_tp.keep Kq2
    replace F_coder_tp := F_coder_tp.keep Kq2 (ninS ne_tp_b1 nin0)
    replace F_value_tp := F_value_tp.keep Kq2 (ninS ne_tp_b1 nin0)
    replace V_tt := V_tt.keep Kq2 (ninS ne_tt_b1 nin0)
    replace A1 := A1.keep Kq2
    have S_b1' : Safe Z EL vm0 h2 b1 := Safe.keep Kq2 (sfS S_b1 sf0) A0.1 S_b1
    have S_t2' : Safe Z EL vm0 h2 t2 := Safe.keep Kq2 (sfS S_b1 sf0) A0.1 S_t2
    have A' : CHr Z EL s.vm s.heap vm0 h2 := A0.trans (CHr.keep Kq2 (sfS S_b1 sf0) A0.1)
    replace S_b1 := S_b1'
    replace S_t2 := S_t2'
    replace A0 := A'
    replace hk0 := Nat.le_trans hk0 Kq2.1
    replace O0 : Ext Z.heap h2 := ext_keep O0 Kq2 (allS ge_b1 all0)
    replace K0 : Keep h0 h2 [] := K0.trans Kq2 (allS (Or.inr sz_b1) all0)
    obtain ⟨b3, T3, h3, k13, t3, kb3, X3, e3, E3, hS3, hk3, hZ3, hown3, Es3, Fc3, Fv3, V3, -, -, Aq3, -, nes3, st3⟩ := ldcCH X2 hx hZ hown (wq hw 61 rfl) hsa e2 hS0 hk0 hEL (List.mem_of_getElem? (i := 1) rfl) A0.1 (vs := [(.int 113), (.int 117), (.int 101), (.int 117), (.int 101), (.int 32)]) (z := (6 : Int32)) ⟨by decide, by decide⟩ (by decide) rfl (g := (mkF m 7 #[vr a] [(.ref b1)])) rfl (hb hby d_prog_5_2_7) (n := 24) (by decide) (by decide) (by decide) (by decide)
    replace hZ3 : Z.Warmed39 T3.vm := hZ3
    replace hown3 : T3.vm.findClass "com/example/wire_to_worker/wiretoworker/broker/QueueName" = some m.cls := hown3
    replace S_b1 : Safe Z EL T3.vm h3 b1 := Aq3.safe A1.lt S_b1
    replace S_t2 : Safe Z EL T3.vm h3 t2 := Aq3.safe V2.lt S_t2
    replace A0 : CHr Z EL s.vm s.heap T3.vm h3 := A0.trans Aq3
    refine OEndsH.st st3 ?_
    have ne_b1_b3 : b1 ≠ b3 := (nes3 b1 S_b1).1
    have ne_b1_t3 : b1 ≠ t3 := (nes3 b1 S_b1).2
    have ne_t2_b3 : t2 ≠ b3 := (nes3 t2 S_t2).1
    have ne_t2_t3 : t2 ≠ t3 := (nes3 t2 S_t2).2
    replace E_a := E_a.ext E3
    replace F_topic_a := F_topic_a.ext E3
    replace F_queueId_a := F_queueId_a.ext E3
    replace E_tp := E_tp.ext E3
    replace F_coder_tp := F_coder_tp.ext E3
    replace F_value_tp := F_value_tp.ext E3
    replace V_tt := V_tt.ext E3
    replace A1 := A1.ext E3
    replace Fc2 := Fc2.ext E3
    replace Fn2 := Fn2.ext E3
    replace Fv2 := Fv2.ext E3
    replace V2 := V2.ext E3
    replace O0 : Ext Z.heap h3 := ext_trans O0 E3
    replace K0 : Keep h0 h3 [] := K0.ext E3
    obtain ⟨_, T4, h4, L4, X4, e4, hQ4, st4⟩ := virtC X3 hx hZ3 (y := (⟨"java/lang/StringBuilder", "append", "(Ljava/lang/String;)Ljava/lang/StringBuilder;"⟩ : MethodName)) (z := (⟨"java/lang/StringBuilder", "append", "(Ljava/lang/String;)Ljava/lang/StringBuilder;"⟩ : MethodName)) hown3 (wq hw 62 rfl) (wq hw 63 rfl) (nf_sel (args := #[]) (mvT hZ3 (wq hw 65 rfl)) rfl) (wq hw 65 rfl) (wq hw 64 rfl) (by decide) (kc := 0) (ks := 0) (Con.sb (W := 0) (rm_sbAppS l hD b1 b3 t2 k2 16 0 z16 t3 kb3 6 [(.int 113), (.int 117), (.int 101), (.int 117), (.int 101), (.int 32)] O0 A1 Fc2 Fn2 Fv2 V2 Es3 Fc3 Fv3 V3 rfl (by decide) rfl (by decide) ge_b1 ge_t2 ne_b1_t2) hZ3 (wq hw 66 rfl) (wq hw 45 rfl) (by decide) (by decide)) e3 A1 (g := (mkF m 9 #[vr a] [(.ref b3), (.ref b1)])) rfl (by rw [hml]; rfl) (argsL := [(.ref b3)]) (rest := []) (lenOf pd_20 rfl) rfl (by show 2 * 0 + _ ≤ _; exact Nat.le_of_eq rfl) (hb hby d_prog_5_2_9) (by decide) (by decide)
    obtain ⟨rfl, Nq4, Kq4, Eq4, Fc4, Fn4, Fv4, V4⟩ := hQ4
    refine OEndsH.st st4 ?_
    replace N0 := Fr.app N0 Nq4
    replace E_a := E_a.keep Kq4
    replace F_topic_a := F_topic_a.keep Kq4 (ninS ne_a_b1 (ninS ne_a_t2 nin0))
    replace F_queueId_a := F_queueId_a.keep Kq4 (ninS ne_a_b1 (ninS ne_a_t2 nin0))
    replace E_tp := E_tp.keep Kq4
    replace F_coder_tp := F_coder_tp.keep Kq4 (ninS ne_tp_b1 (ninS ne_tp_t2 nin0))
    replace F_value_tp := F_value_tp.keep Kq4 (ninS ne_tp_b1 (ninS ne_tp_t2 nin0))
    replace V_tt := V_tt.keep Kq4 (ninS ne_tt_b1 (ninS ne_tt_t2 nin0))
    replace A1 := A1.keep Kq4
    replace Es3 := Es3.keep Kq4
    replace Fc3 := Fc3.keep Kq4 (ninS (Ne.symm ne_b1_b3) (ninS (Ne.symm ne_t2_b3) nin0))
    replace Fv3 := Fv3.keep Kq4 (ninS (Ne.symm ne_b1_b3) (ninS (Ne.symm ne_t2_b3) nin0))
    replace V3 := V3.keep Kq4 (ninS (Ne.symm ne_b1_t3) (ninS (Ne.symm ne_t2_t3) nin0))
    have S_b1' : Safe Z EL T3.vm h4 b1 := Safe.keep Kq4 (sfS S_b1 (sfS S_t2 sf0)) A0.1 S_b1
    have S_t2' : Safe Z EL T3.vm h4 t2 := Safe.keep Kq4 (sfS S_b1 (sfS S_t2 sf0)) A0.1 S_t2
    have A' : CHr Z EL s.vm s.heap T3.vm h4 := A0.trans (CHr.keep Kq4 (sfS S_b1 (sfS S_t2 sf0)) A0.1)
    replace S_b1 := S_b1'
    replace S_t2 := S_t2'
    replace A0 := A'
    replace hk3 := Nat.le_trans hk3 Kq4.1
    replace O0 : Ext Z.heap h4 := ext_keep O0 Kq4 (allS ge_b1 (allS ge_t2 all0))
    replace K0 : Keep h0 h4 [] := K0.trans Kq4 (allS (Or.inr sz_b1) (allS (Or.inr sz_t2) all0))
    obtain ⟨l5, V_l5, tk5, ln5⟩ : ∃ l, Arv Z h4 t2 k2 .byte (Int32.ofNat 16) l (.int 0) ∧ Tk l (([] : List Int32) ++ [113, 117, 101, 117, 101, 32]) ∧ l.length = 16 := ⟨_, V4, (tk_app tk_z rfl by_q.symm), rfl⟩
    refine OEndsH.st (S' := T4.setTop (mkF m 13 #[vr a] [(.ref a), (.ref b1)])) (fun _ k => ?_) ?_
    · refine XS.aloadN X4.here hx rfl (hb hby d_prog_5_2_12) rfl rfl ?_
      exact k
    obtain ⟨T6, X6, e6, st6⟩ := getF X4 hx hZ3 hown3 (host := "") (Or.inl (wq hw 36 rfl)) Via.refl e4 F_queueId_a (g := (mkF m 13 #[vr a] [(.ref a), (.ref b1)])) rfl rfl (hb hby d_prog_5_2_13)
    refine OEndsH.st st6 ?_
    obtain ⟨_, T7, h7, L7, X7, e7, hQ7, st7⟩ := virtC X6 hx hZ3 (y := (⟨"java/lang/StringBuilder", "append", "(I)Ljava/lang/StringBuilder;"⟩ : MethodName)) (z := (⟨"java/lang/StringBuilder", "append", "(I)Ljava/lang/StringBuilder;"⟩ : MethodName)) hown3 (wq hw 110 rfl) (wq hw 111 rfl) (nf_sel (args := #[]) (mvT hZ3 (wq hw 65 rfl)) rfl) (wq hw 113 rfl) (wq hw 112 rfl) (by decide) (kc := 0) (ks := 0) (Con.sb (W := 0) (rm_sbAppI l hD b1 x t2 k2 16 6 l5 A d sg O0 A1 Fc4 Fn4 Fv4 V_l5 ln5 (by decide) ge_b1 ge_t2 ne_b1_t2 (by omega) hDig hS hAb hsg) hZ3 (wq hw 114 rfl) (wq hw 45 rfl) (by decide) (by decide)) e6 A1 (g := (mkF m 16 #[vr a] [(.int x), (.ref b1)])) rfl (by rw [hml]; rfl) (argsL := [(.int x)]) (rest := []) (lenOf pd_21 rfl) rfl (by show 2 * 0 + _ ≤ _; exact Nat.le_of_eq rfl) (hb hby d_prog_5_2_16) (by decide) (by decide)
    obtain ⟨vs7, rfl, Nq7, Kq7, hl7, tt7, dr7, Eq7, Fc7, Fn7, Fv7, V7⟩ := hQ7
    refine OEndsH.st st7 ?_
    replace N0 := Fr.app N0 Nq7
    replace E_a := E_a.keep Kq7
    replace F_topic_a := F_topic_a.keep Kq7 (ninS ne_a_b1 (ninS ne_a_t2 nin0))
    replace F_queueId_a := F_queueId_a.keep Kq7 (ninS ne_a_b1 (ninS ne_a_t2 nin0))
    replace E_tp := E_tp.keep Kq7
    replace F_coder_tp := F_coder_tp.keep Kq7 (ninS ne_tp_b1 (ninS ne_tp_t2 nin0))
    replace F_value_tp := F_value_tp.keep Kq7 (ninS ne_tp_b1 (ninS ne_tp_t2 nin0))
    replace V_tt := V_tt.keep Kq7 (ninS ne_tt_b1 (ninS ne_tt_t2 nin0))
    replace A1 := A1.keep Kq7
    replace Es3 := Es3.keep Kq7
    replace Fc3 := Fc3.keep Kq7 (ninS (Ne.symm ne_b1_b3) (ninS (Ne.symm ne_t2_b3) nin0))
    replace Fv3 := Fv3.keep Kq7 (ninS (Ne.symm ne_b1_b3) (ninS (Ne.symm ne_t2_b3) nin0))
    replace V3 := V3.keep Kq7 (ninS (Ne.symm ne_b1_t3) (ninS (Ne.symm ne_t2_t3) nin0))
    have S_b1' : Safe Z EL T3.vm h7 b1 := Safe.keep Kq7 (sfS S_b1 (sfS S_t2 sf0)) A0.1 S_b1
    have S_t2' : Safe Z EL T3.vm h7 t2 := Safe.keep Kq7 (sfS S_b1 (sfS S_t2 sf0)) A0.1 S_t2
    have A' : CHr Z EL s.vm s.heap T3.vm h7 := A0.trans (CHr.keep Kq7 (sfS S_b1 (sfS S_t2 sf0)) A0.1)
    replace S_b1 := S_b1'
    replace S_t2 := S_t2'
    replace A0 := A'
    replace hk3 := Nat.le_trans hk3 Kq7.1
    replace O0 : Ext Z.heap h7 := ext_keep O0 Kq7 (allS ge_b1 (allS ge_t2 all0))
    replace K0 : Keep h0 h7 [] := K0.trans Kq7 (allS (Or.inr sz_b1) (allS (Or.inr sz_t2) all0))
    obtain ⟨l8, V_l8, tk8, ln8⟩ : ∃ l, Arv Z h7 t2 k2 .byte (Int32.ofNat 16) l (.int 0) ∧ Tk l ((([] : List Int32) ++ [113, 117, 101, 117, 101, 32]) ++ (List.replicate sg 45 ++ dgs A d)) ∧ l.length = 16 := ⟨_, V7, (tk_int tk5 rfl tt7 dr7), hl7⟩
    have L2 : ((([] : List Int32) ++ [113, 117, 101, 117, 101, 32]) ++ (List.replicate sg 45 ++ dgs A d)).length = (6 + d + sg) := by simp [dgs_len]; omega
    obtain ⟨b9, T9, h9, k19, t9, kb9, X9, e9, E9, hS9, hk9, hZ9, hown9, Es9, Fc9, Fv9, V9, -, -, Aq9, -, nes9, st9⟩ := ldcCH X7 hx hZ3 hown3 (wq hw 132 rfl) hsa e7 hS3 hk3 hEL (List.mem_of_getElem? (i := 2) rfl) A0.1 (vs := [(.int 32), (.int 111), (.int 102), (.int 32), (.int 116), (.int 111), (.int 112), (.int 105), (.int 99), (.int 32)]) (z := (10 : Int32)) ⟨by decide, by decide⟩ (by decide) rfl (g := (mkF m 19 #[vr a] [(.ref b1)])) rfl (hb hby d_prog_5_2_19) (n := 40) (by decide) (by decide) (by decide) (by decide)
    replace hZ9 : Z.Warmed39 T9.vm := hZ9
    replace hown9 : T9.vm.findClass "com/example/wire_to_worker/wiretoworker/broker/QueueName" = some m.cls := hown9
    replace S_b1 : Safe Z EL T9.vm h9 b1 := Aq9.safe A1.lt S_b1
    replace S_t2 : Safe Z EL T9.vm h9 t2 := Aq9.safe V_l8.lt S_t2
    replace A0 : CHr Z EL s.vm s.heap T9.vm h9 := A0.trans Aq9
    refine OEndsH.st st9 ?_
    have ne_b1_b9 : b1 ≠ b9 := (nes9 b1 S_b1).1
    have ne_b1_t9 : b1 ≠ t9 := (nes9 b1 S_b1).2
    have ne_t2_b9 : t2 ≠ b9 := (nes9 t2 S_t2).1
    have ne_t2_t9 : t2 ≠ t9 := (nes9 t2 S_t2).2
    replace E_a := E_a.ext E9
    replace F_topic_a := F_topic_a.ext E9
    replace F_queueId_a := F_queueId_a.ext E9
    replace E_tp := E_tp.ext E9
    replace F_coder_tp := F_coder_tp.ext E9
    replace F_value_tp := F_value_tp.ext E9
    replace V_tt := V_tt.ext E9
    replace A1 := A1.ext E9
    replace Es3 := Es3.ext E9
    replace Fc3 := Fc3.ext E9
    replace Fv3 := Fv3.ext E9
    replace V3 := V3.ext E9
    replace Fc7 := Fc7.ext E9
    replace Fn7 := Fn7.ext E9
    replace Fv7 := Fv7.ext E9
    replace V_l8 := V_l8.ext E9
    replace O0 : Ext Z.heap h9 := ext_trans O0 E9
    replace K0 : Keep h0 h9 [] := K0.ext E9
    obtain ⟨_, T10, h10, L10, X10, e10, hQ10, st10⟩ := virtC X9 hx hZ9 (y := (⟨"java/lang/StringBuilder", "append", "(Ljava/lang/String;)Ljava/lang/StringBuilder;"⟩ : MethodName)) (z := (⟨"java/lang/StringBuilder", "append", "(Ljava/lang/String;)Ljava/lang/StringBuilder;"⟩ : MethodName)) hown9 (wq hw 62 rfl) (wq hw 63 rfl) (nf_sel (args := #[]) (mvT hZ9 (wq hw 65 rfl)) rfl) (wq hw 65 rfl) (wq hw 64 rfl) (by decide) (kc := 1) (ks := 34) (Con.sb (W := 0) (rm_sbAppG l hD b1 b9 t2 k2 (6 + d + sg) l8 t9 kb9 10 [(.int 32), (.int 111), (.int 102), (.int 32), (.int 116), (.int 111), (.int 112), (.int 105), (.int 99), (.int 32)] O0 A1 Fc7 Fn7 Fv7 V_l8 Es9 Fc9 Fv9 V9 ln8 rfl (by omega) (by omega) ge_b1) hZ9 (wq hw 66 rfl) (wq hw 45 rfl) (by decide) (by decide)) e9 A1 (g := (mkF m 21 #[vr a] [(.ref b9), (.ref b1)])) rfl (by rw [hml]; rfl) (argsL := [(.ref b9)]) (rest := []) (lenOf pd_20 rfl) rfl (by show 2 * 0 + _ ≤ _; exact Nat.le_of_eq rfl) (hb hby d_prog_5_2_21) (by decide) (by decide)
    obtain ⟨r10, kr10, rfl, Nq10, Kq10, szq10, Eq10, Fc10, Fn10, Fv10, V10⟩ := hQ10
    refine OEndsH.st st10 ?_
    replace N0 := Fr.app N0 Nq10
    have ne_a_r10 : a ≠ r10 := Nat.ne_of_lt (Nat.lt_of_lt_of_le E_a.lt szq10)
    have ne_b1_r10 : b1 ≠ r10 := Nat.ne_of_lt (Nat.lt_of_lt_of_le A1.lt szq10)
    have ne_b3_r10 : b3 ≠ r10 := Nat.ne_of_lt (Nat.lt_of_lt_of_le Es3.lt szq10)
    have ne_b9_r10 : b9 ≠ r10 := Nat.ne_of_lt (Nat.lt_of_lt_of_le Es9.lt szq10)
    have ne_t2_r10 : t2 ≠ r10 := Nat.ne_of_lt (Nat.lt_of_lt_of_le V_l8.lt szq10)
    have ne_t3_r10 : t3 ≠ r10 := Nat.ne_of_lt (Nat.lt_of_lt_of_le V3.lt szq10)
    have ne_t9_r10 : t9 ≠ r10 := Nat.ne_of_lt (Nat.lt_of_lt_of_le V9.lt szq10)
    have ne_tp_r10 : tp ≠ r10 := Nat.ne_of_lt (Nat.lt_of_lt_of_le E_tp.lt szq10)
    have ne_tt_r10 : tt ≠ r10 := Nat.ne_of_lt (Nat.lt_of_lt_of_le V_tt.lt szq10)
    have ge_r10 : Z.heap.size ≤ r10 := Nat.le_trans O0.1 szq10
    have S_r10 : Safe Z EL T9.vm h9 r10 := Safe.new szq10
    have sz_r10 : h0.size ≤ r10 := Nat.le_trans K0.1 szq10
    replace E_a := E_a.keep Kq10
    replace F_topic_a := F_topic_a.keep Kq10 (ninS ne_a_b1 nin0)
    replace F_queueId_a := F_queueId_a.keep Kq10 (ninS ne_a_b1 nin0)
    replace E_tp := E_tp.keep Kq10
    replace F_coder_tp := F_coder_tp.keep Kq10 (ninS ne_tp_b1 nin0)
    replace F_value_tp := F_value_tp.keep Kq10 (ninS ne_tp_b1 nin0)
    replace V_tt := V_tt.keep Kq10 (ninS ne_tt_b1 nin0)
    replace A1 := A1.keep Kq10
    replace Es3 := Es3.keep Kq10
    replace Fc3 := Fc3.keep Kq10 (ninS (Ne.symm ne_b1_b3) nin0)
    replace Fv3 := Fv3.keep Kq10 (ninS (Ne.symm ne_b1_b3) nin0)
    replace V3 := V3.keep Kq10 (ninS (Ne.symm ne_b1_t3) nin0)
    replace V_l8 := V_l8.keep Kq10 (ninS (Ne.symm ne_b1_t2) nin0)
    replace Es9 := Es9.keep Kq10
    replace Fc9 := Fc9.keep Kq10 (ninS (Ne.symm ne_b1_b9) nin0)
    replace Fv9 := Fv9.keep Kq10 (ninS (Ne.symm ne_b1_b9) nin0)
    replace V9 := V9.keep Kq10 (ninS (Ne.symm ne_b1_t9) nin0)
    have S_b1' : Safe Z EL T9.vm h10 b1 := Safe.keep Kq10 (sfS S_b1 sf0) A0.1 S_b1
    have S_t2' : Safe Z EL T9.vm h10 t2 := Safe.keep Kq10 (sfS S_b1 sf0) A0.1 S_t2
    have S_r10' : Safe Z EL T9.vm h10 r10 := Safe.keep Kq10 (sfS S_b1 sf0) A0.1 S_r10
    have A' : CHr Z EL s.vm s.heap T9.vm h10 := A0.trans (CHr.keep Kq10 (sfS S_b1 sf0) A0.1)
    replace S_b1 := S_b1'
    replace S_t2 := S_t2'
    replace S_r10 := S_r10'
    replace A0 := A'
    replace hk9 := Nat.le_trans hk9 Kq10.1
    replace O0 : Ext Z.heap h10 := ext_keep O0 Kq10 (allS ge_b1 all0)
    replace K0 : Keep h0 h10 [] := K0.trans Kq10 (allS (Or.inr sz_b1) all0)
    obtain ⟨l11, V_l11, tk11, ln11⟩ : ∃ l, Arv Z h10 r10 kr10 .byte (Int32.ofNat 34) l (.int 0) ∧ Tk l (((([] : List Int32) ++ [113, 117, 101, 117, 101, 32]) ++ (List.replicate sg 45 ++ dgs A d)) ++ [32, 111, 102, 32, 116, 111, 112, 105, 99, 32]) ∧ l.length = 34 := ⟨_, V10, (tk_app (tk_grow tk8 (by rw [L2, ln8]; omega)) L2.symm by_o.symm), (len_cp (by simp [z18, ln8]) rfl (by omega))⟩
    have L3 : (((([] : List Int32) ++ [113, 117, 101, 117, 101, 32]) ++ (List.replicate sg 45 ++ dgs A d)) ++ [32, 111, 102, 32, 116, 111, 112, 105, 99, 32]).length = ((6 + d + sg) + 10) := by rw [List.length_append, L2]; rfl
    refine OEndsH.st (S' := T10.setTop (mkF m 25 #[vr a] [(.ref a), (.ref b1)])) (fun _ k => ?_) ?_
    · refine XS.aloadN X10.here hx rfl (hb hby d_prog_5_2_24) rfl rfl ?_
      exact k
    obtain ⟨T12, X12, e12, st12⟩ := getF X10 hx hZ9 hown9 (host := "") (Or.inl (wq hw 34 rfl)) Via.refl e10 F_topic_a (g := (mkF m 25 #[vr a] [(.ref a), (.ref b1)])) rfl rfl (hb hby d_prog_5_2_25)
    refine OEndsH.st st12 ?_
    obtain ⟨_, T13, h13, L13, X13, e13, hQ13, st13⟩ := virtC X12 hx hZ9 (y := (⟨"java/lang/StringBuilder", "append", "(Ljava/lang/String;)Ljava/lang/StringBuilder;"⟩ : MethodName)) (z := (⟨"java/lang/StringBuilder", "append", "(Ljava/lang/String;)Ljava/lang/StringBuilder;"⟩ : MethodName)) hown9 (wq hw 62 rfl) (wq hw 63 rfl) (nf_sel (args := #[]) (mvT hZ9 (wq hw 65 rfl)) rfl) (wq hw 65 rfl) (wq hw 64 rfl) (by decide) (kc := 0) (ks := 0) (Con.sb (W := 0) (rm_sbAppS l hD b1 tp r10 kr10 34 ((6 + d + sg) + 10) l11 tt kt tn (bys cs) O0 A1 Fc10 Fn10 Fv10 V_l11 E_tp F_coder_tp F_value_tp V_tt ln11 (by decide) (bys_len.trans hcs) (by omega) ge_b1 ge_r10 ne_b1_r10) hZ9 (wq hw 66 rfl) (wq hw 45 rfl) (by decide) (by decide)) e12 A1 (g := (mkF m 28 #[vr a] [(.ref tp), (.ref b1)])) rfl (by rw [hml]; rfl) (argsL := [(.ref tp)]) (rest := []) (lenOf pd_20 rfl) rfl (by show 2 * 0 + _ ≤ _; exact Nat.le_of_eq rfl) (hb hby d_prog_5_2_28) (by decide) (by decide)
    obtain ⟨rfl, Nq13, Kq13, Eq13, Fc13, Fn13, Fv13, V13⟩ := hQ13
    refine OEndsH.st st13 ?_
    replace N0 := Fr.app N0 Nq13
    replace E_a := E_a.keep Kq13
    replace F_topic_a := F_topic_a.keep Kq13 (ninS ne_a_b1 (ninS ne_a_r10 nin0))
    replace F_queueId_a := F_queueId_a.keep Kq13 (ninS ne_a_b1 (ninS ne_a_r10 nin0))
    replace E_tp := E_tp.keep Kq13
    replace F_coder_tp := F_coder_tp.keep Kq13 (ninS ne_tp_b1 (ninS ne_tp_r10 nin0))
    replace F_value_tp := F_value_tp.keep Kq13 (ninS ne_tp_b1 (ninS ne_tp_r10 nin0))
    replace V_tt := V_tt.keep Kq13 (ninS ne_tt_b1 (ninS ne_tt_r10 nin0))
    replace A1 := A1.keep Kq13
    replace Es3 := Es3.keep Kq13
    replace Fc3 := Fc3.keep Kq13 (ninS (Ne.symm ne_b1_b3) (ninS ne_b3_r10 nin0))
    replace Fv3 := Fv3.keep Kq13 (ninS (Ne.symm ne_b1_b3) (ninS ne_b3_r10 nin0))
    replace V3 := V3.keep Kq13 (ninS (Ne.symm ne_b1_t3) (ninS ne_t3_r10 nin0))
    replace V_l8 := V_l8.keep Kq13 (ninS (Ne.symm ne_b1_t2) (ninS ne_t2_r10 nin0))
    replace Es9 := Es9.keep Kq13
    replace Fc9 := Fc9.keep Kq13 (ninS (Ne.symm ne_b1_b9) (ninS ne_b9_r10 nin0))
    replace Fv9 := Fv9.keep Kq13 (ninS (Ne.symm ne_b1_b9) (ninS ne_b9_r10 nin0))
    replace V9 := V9.keep Kq13 (ninS (Ne.symm ne_b1_t9) (ninS ne_t9_r10 nin0))
    have S_b1' : Safe Z EL T9.vm h13 b1 := Safe.keep Kq13 (sfS S_b1 (sfS S_r10 sf0)) A0.1 S_b1
    have S_t2' : Safe Z EL T9.vm h13 t2 := Safe.keep Kq13 (sfS S_b1 (sfS S_r10 sf0)) A0.1 S_t2
    have S_r10' : Safe Z EL T9.vm h13 r10 := Safe.keep Kq13 (sfS S_b1 (sfS S_r10 sf0)) A0.1 S_r10
    have A' : CHr Z EL s.vm s.heap T9.vm h13 := A0.trans (CHr.keep Kq13 (sfS S_b1 (sfS S_r10 sf0)) A0.1)
    replace S_b1 := S_b1'
    replace S_t2 := S_t2'
    replace S_r10 := S_r10'
    replace A0 := A'
    replace hk9 := Nat.le_trans hk9 Kq13.1
    replace O0 : Ext Z.heap h13 := ext_keep O0 Kq13 (allS ge_b1 (allS ge_r10 all0))
    replace K0 : Keep h0 h13 [] := K0.trans Kq13 (allS (Or.inr sz_b1) (allS (Or.inr sz_r10) all0))
    obtain ⟨l14, V_l14, tk14, ln14⟩ : ∃ l, Arv Z h13 r10 kr10 .byte (Int32.ofNat 34) l (.int 0) ∧ Tk l ((((([] : List Int32) ++ [113, 117, 101, 117, 101, 32]) ++ (List.replicate sg 45 ++ dgs A d)) ++ [32, 111, 102, 32, 116, 111, 112, 105, 99, 32]) ++ cs) ∧ l.length = 34 := ⟨_, V13, (tk_app tk11 L3.symm rfl), (len_cp ln11 (bys_len.trans hcs) (by omega))⟩
    have L4 : ((((([] : List Int32) ++ [113, 117, 101, 117, 101, 32]) ++ (List.replicate sg 45 ++ dgs A d)) ++ [32, 111, 102, 32, 116, 111, 112, 105, 99, 32]) ++ cs).length = (((6 + d + sg) + 10) + tn) := by rw [List.length_append, L3, hcs]
    have Q4 : (((([] : List Int32) ++ [113, 117, 101, 117, 101, 32]) ++ (List.replicate sg 45 ++ dgs A d)) ++ [32, 111, 102, 32, 116, 111, 112, 105, 99, 32]) ++ cs = qs sg A d cs := by simp [qs]
    obtain ⟨_, T15, h15, L15, X15, e15, hQ15, st15⟩ := virtC X13 hx hZ9 (y := (⟨"java/lang/StringBuilder", "toString", "()Ljava/lang/String;"⟩ : MethodName)) (z := (⟨"java/lang/StringBuilder", "toString", "()Ljava/lang/String;"⟩ : MethodName)) hown9 (wq hw 156 rfl) (wq hw 157 rfl) (nf_sel (args := #[]) (mvT hZ9 (wq hw 65 rfl)) rfl) (wq hw 159 rfl) (wq hw 158 rfl) (by decide) (kc := 2) (ks := 37) (Con.sb (W := 0) (rm_sbToStr l hD b1 r10 kr10 34 (((6 + d + sg) + 10) + tn) l14 O0 A1 Fc13 Fn13 Fv13 V_l14 ln14 (by decide) (by omega) (by omega)) hZ9 (wq hw 160 rfl) (wq hw 45 rfl) (by decide) (by decide)) e13 A1 (g := (mkF m 31 #[vr a] [(.ref b1)])) rfl (by rw [hml]; rfl) (argsL := []) (rest := []) (lenOf pd_22 rfl) rfl (by show 2 * 0 + _ ≤ _; exact Nat.le_of_eq rfl) (hb hby d_prog_5_2_31) (by decide) (by decide)
    obtain ⟨a15, r15, kr15, rfl, Nq15, Kq15, -, -, -, Ea15, Fca15, Fva15, Va15⟩ := hQ15
    refine OEndsH.st st15 ?_
    replace N0 := Fr.app N0 Nq15
    replace E_a := E_a.keep Kq15
    replace F_topic_a := F_topic_a.keep Kq15 nin0
    replace F_queueId_a := F_queueId_a.keep Kq15 nin0
    replace E_tp := E_tp.keep Kq15
    replace F_coder_tp := F_coder_tp.keep Kq15 nin0
    replace F_value_tp := F_value_tp.keep Kq15 nin0
    replace V_tt := V_tt.keep Kq15 nin0
    replace A1 := A1.keep Kq15
    replace Es3 := Es3.keep Kq15
    replace Fc3 := Fc3.keep Kq15 nin0
    replace Fv3 := Fv3.keep Kq15 nin0
    replace V3 := V3.keep Kq15 nin0
    replace V_l8 := V_l8.keep Kq15 nin0
    replace Es9 := Es9.keep Kq15
    replace Fc9 := Fc9.keep Kq15 nin0
    replace Fv9 := Fv9.keep Kq15 nin0
    replace V9 := V9.keep Kq15 nin0
    replace Fc13 := Fc13.keep Kq15 nin0
    replace Fn13 := Fn13.keep Kq15 nin0
    replace Fv13 := Fv13.keep Kq15 nin0
    replace V_l14 := V_l14.keep Kq15 nin0
    have S_b1' : Safe Z EL T9.vm h15 b1 := Safe.keep Kq15 sf0 A0.1 S_b1
    have S_t2' : Safe Z EL T9.vm h15 t2 := Safe.keep Kq15 sf0 A0.1 S_t2
    have S_r10' : Safe Z EL T9.vm h15 r10 := Safe.keep Kq15 sf0 A0.1 S_r10
    have A' : CHr Z EL s.vm s.heap T9.vm h15 := A0.trans (CHr.keep Kq15 sf0 A0.1)
    replace S_b1 := S_b1'
    replace S_t2 := S_t2'
    replace S_r10 := S_r10'
    replace A0 := A'
    replace hk9 := Nat.le_trans hk9 Kq15.1
    replace O0 : Ext Z.heap h15 := ext_keep O0 Kq15 all0
    replace K0 : Keep h0 h15 [] := K0.trans Kq15 all0
    have hfin : l14.take (((6 + d + sg) + 10) + tn) = bys (qs sg A d cs) := by rw [← L4, ← Q4]; exact tk14
    rw [hfin, ← L4, Q4] at Va15
    exact OEndsH.ret X15 hx hZ9 hEL e15 hS9 hk9 A0 hret hlk rfl (Or.inr (Or.inr (Or.inr (Or.inr ⟨rfl, rfl, rfl⟩)))) (hb hby d_prog_5_2_34) (by decide) (by decide) ⟨a15, rfl, N0, K0, Ea15, Fca15, r15, kr15, Fva15, Va15⟩
  · have hd1 := hDig.1
    have hd10 := hDig.2.1
    obtain ⟨T1, h1, X1, e1, E1, A1, D1, U1, st1⟩ := newO X0 hx hZ hown (wq hw 43 rfl) (wq hw 44 rfl) (wq hw 45 rfl) e0 (g := (mkF m 0 #[vr a] [])) rfl (hb hby d_prog_5_2_0) (by decide) (by decide)
    obtain ⟨b1, g1⟩ : ∃ z, z = h0.size := ⟨_, rfl⟩
    rw [← g1] at A1 D1 U1 st1
    refine OEndsH.st st1 ?_
    have ne_a_b1 : a ≠ b1 := Nat.ne_of_lt (Nat.lt_of_lt_of_le E_a.lt (Nat.le_of_eq g1.symm))
    have ne_tp_b1 : tp ≠ b1 := Nat.ne_of_lt (Nat.lt_of_lt_of_le E_tp.lt (Nat.le_of_eq g1.symm))
    have ne_tt_b1 : tt ≠ b1 := Nat.ne_of_lt (Nat.lt_of_lt_of_le V_tt.lt (Nat.le_of_eq g1.symm))
    have ge_b1 : Z.heap.size ≤ b1 := Nat.le_trans O0.1 (Nat.le_of_eq g1.symm)
    have sz_b1 : h0.size ≤ b1 := Nat.le_trans K0.1 (Nat.le_of_eq g1.symm)
    have S_b1 : Safe Z EL vm0 h0 b1 := Safe.new (Nat.le_of_eq g1.symm)
    replace E_a := E_a.ext E1
    replace F_topic_a := F_topic_a.ext E1
    replace F_queueId_a := F_queueId_a.ext E1
    replace E_tp := E_tp.ext E1
    replace F_coder_tp := F_coder_tp.ext E1
    replace F_value_tp := F_value_tp.ext E1
    replace V_tt := V_tt.ext E1
    have S_b1' : Safe Z EL vm0 h1 b1 := Safe.ext E1 A0.1 S_b1
    have A' : CHr Z EL s.vm s.heap vm0 h1 := A0.trans (CHr.ext E1 A0.1)
    replace S_b1 := S_b1'
    replace A0 := A'
    replace hk0 := Nat.le_trans hk0 E1.1
    replace O0 : Ext Z.heap h1 := ext_trans O0 E1
    replace K0 : Keep h0 h1 [] := K0.ext E1
    have F_value_b1 : Fld Z h1 b1 "java/lang/AbstractStringBuilder" "value" "[B" .null := D1 (Or.inl (wq hw 58 rfl)) (ty := (.array .byte)) (by decide)
    have F_coder_b1 : Fld Z h1 b1 "java/lang/AbstractStringBuilder" "coder" "B" (.int 0) := D1 (Or.inl (wq hw 60 rfl)) (ty := .byte) (by decide)
    have F_count_b1 : Fld Z h1 b1 "java/lang/AbstractStringBuilder" "count" "I" (.int 0) := D1 (Or.inl (wq hw 84 rfl)) (ty := .int) (by decide)
    refine OEndsH.st (S' := T1.setTop (mkF m 4 #[vr a] [(.ref b1), (.ref b1)])) (fun _ k => ?_) ?_
    · refine XS.dup X1.here hx rfl (hb hby d_prog_5_2_3) rfl rfl ?_
      exact k
    obtain ⟨_, T2, h2, L2, X2, e2, hQ2, st2⟩ := specC X1 hx hZ rfl hown (wq hw 46 rfl) (wq hw 47 rfl) (wq hw 48 rfl) (by decide) (kc := 1) (ks := 16) (Con.sb (W := 1) (rm_sbInit l hD b1 O0 A1 F_coder_b1 F_count_b1 F_value_b1 ge_b1) hZ (wq hw 48 rfl) (wq hw 45 rfl) (by decide) (by decide)) e1 (a := b1) (g := (mkF m 4 #[vr a] [(.ref b1), (.ref b1)])) rfl (by rw [hml]; rfl) (argsL := []) (rest := [(.ref b1)]) (lenOf pd_19 rfl) rfl (by show 2 * 0 + _ ≤ _; exact Nat.le_of_eq rfl) (hb hby d_prog_5_2_4) (by decide) (by decide)
    obtain ⟨t2, k2, rfl, Nq2, Kq2, szq2, Eq2, Fc2, Fn2, Fv2, V2⟩ := hQ2
    refine OEndsH.st st2 ?_
    replace N0 := Fr.app N0 Nq2
    have ne_a_t2 : a ≠ t2 := Nat.ne_of_lt (Nat.lt_of_lt_of_le E_a.lt szq2)
    have ne_b1_t2 : b1 ≠ t2 := Nat.ne_of_lt (Nat.lt_of_lt_of_le A1.lt szq2)
    have ne_tp_t2 : tp ≠ t2 := Nat.ne_of_lt (Nat.lt_of_lt_of_le E_tp.lt szq2)
    have ne_tt_t2 : tt ≠ t2 := Nat.ne_of_lt (Nat.lt_of_lt_of_le V_tt.lt szq2)
    have ge_t2 : Z.heap.size ≤ t2 := Nat.le_trans O0.1 szq2
    have S_t2 : Safe Z EL vm0 h1 t2 := Safe.new szq2
    have sz_t2 : h0.size ≤ t2 := Nat.le_trans K0.1 szq2
    replace E_a := E_a.keep Kq2
    replace F_topic_a := F_topic_a.keep Kq2 (ninS ne_a_b1 nin0)
    replace F_queueId_a := F_queueId_a.keep Kq2 (ninS ne_a_b1 nin0)
    replace E_tp := E_tp.keep Kq2
    replace F_coder_tp := F_coder_tp.keep Kq2 (ninS ne_tp_b1 nin0)
    replace F_value_tp := F_value_tp.keep Kq2 (ninS ne_tp_b1 nin0)
    replace V_tt := V_tt.keep Kq2 (ninS ne_tt_b1 nin0)
    replace A1 := A1.keep Kq2
    have S_b1' : Safe Z EL vm0 h2 b1 := Safe.keep Kq2 (sfS S_b1 sf0) A0.1 S_b1
    have S_t2' : Safe Z EL vm0 h2 t2 := Safe.keep Kq2 (sfS S_b1 sf0) A0.1 S_t2
    have A' : CHr Z EL s.vm s.heap vm0 h2 := A0.trans (CHr.keep Kq2 (sfS S_b1 sf0) A0.1)
    replace S_b1 := S_b1'
    replace S_t2 := S_t2'
    replace A0 := A'
    replace hk0 := Nat.le_trans hk0 Kq2.1
    replace O0 : Ext Z.heap h2 := ext_keep O0 Kq2 (allS ge_b1 all0)
    replace K0 : Keep h0 h2 [] := K0.trans Kq2 (allS (Or.inr sz_b1) all0)
    obtain ⟨b3, T3, h3, k13, t3, kb3, X3, e3, E3, hS3, hk3, hZ3, hown3, Es3, Fc3, Fv3, V3, -, -, Aq3, -, nes3, st3⟩ := ldcCH X2 hx hZ hown (wq hw 61 rfl) hsa e2 hS0 hk0 hEL (List.mem_of_getElem? (i := 1) rfl) A0.1 (vs := [(.int 113), (.int 117), (.int 101), (.int 117), (.int 101), (.int 32)]) (z := (6 : Int32)) ⟨by decide, by decide⟩ (by decide) rfl (g := (mkF m 7 #[vr a] [(.ref b1)])) rfl (hb hby d_prog_5_2_7) (n := 24) (by decide) (by decide) (by decide) (by decide)
    replace hZ3 : Z.Warmed39 T3.vm := hZ3
    replace hown3 : T3.vm.findClass "com/example/wire_to_worker/wiretoworker/broker/QueueName" = some m.cls := hown3
    replace S_b1 : Safe Z EL T3.vm h3 b1 := Aq3.safe A1.lt S_b1
    replace S_t2 : Safe Z EL T3.vm h3 t2 := Aq3.safe V2.lt S_t2
    replace A0 : CHr Z EL s.vm s.heap T3.vm h3 := A0.trans Aq3
    refine OEndsH.st st3 ?_
    have ne_b1_b3 : b1 ≠ b3 := (nes3 b1 S_b1).1
    have ne_b1_t3 : b1 ≠ t3 := (nes3 b1 S_b1).2
    have ne_t2_b3 : t2 ≠ b3 := (nes3 t2 S_t2).1
    have ne_t2_t3 : t2 ≠ t3 := (nes3 t2 S_t2).2
    replace E_a := E_a.ext E3
    replace F_topic_a := F_topic_a.ext E3
    replace F_queueId_a := F_queueId_a.ext E3
    replace E_tp := E_tp.ext E3
    replace F_coder_tp := F_coder_tp.ext E3
    replace F_value_tp := F_value_tp.ext E3
    replace V_tt := V_tt.ext E3
    replace A1 := A1.ext E3
    replace Fc2 := Fc2.ext E3
    replace Fn2 := Fn2.ext E3
    replace Fv2 := Fv2.ext E3
    replace V2 := V2.ext E3
    replace O0 : Ext Z.heap h3 := ext_trans O0 E3
    replace K0 : Keep h0 h3 [] := K0.ext E3
    obtain ⟨_, T4, h4, L4, X4, e4, hQ4, st4⟩ := virtC X3 hx hZ3 (y := (⟨"java/lang/StringBuilder", "append", "(Ljava/lang/String;)Ljava/lang/StringBuilder;"⟩ : MethodName)) (z := (⟨"java/lang/StringBuilder", "append", "(Ljava/lang/String;)Ljava/lang/StringBuilder;"⟩ : MethodName)) hown3 (wq hw 62 rfl) (wq hw 63 rfl) (nf_sel (args := #[]) (mvT hZ3 (wq hw 65 rfl)) rfl) (wq hw 65 rfl) (wq hw 64 rfl) (by decide) (kc := 0) (ks := 0) (Con.sb (W := 0) (rm_sbAppS l hD b1 b3 t2 k2 16 0 z16 t3 kb3 6 [(.int 113), (.int 117), (.int 101), (.int 117), (.int 101), (.int 32)] O0 A1 Fc2 Fn2 Fv2 V2 Es3 Fc3 Fv3 V3 rfl (by decide) rfl (by decide) ge_b1 ge_t2 ne_b1_t2) hZ3 (wq hw 66 rfl) (wq hw 45 rfl) (by decide) (by decide)) e3 A1 (g := (mkF m 9 #[vr a] [(.ref b3), (.ref b1)])) rfl (by rw [hml]; rfl) (argsL := [(.ref b3)]) (rest := []) (lenOf pd_20 rfl) rfl (by show 2 * 0 + _ ≤ _; exact Nat.le_of_eq rfl) (hb hby d_prog_5_2_9) (by decide) (by decide)
    obtain ⟨rfl, Nq4, Kq4, Eq4, Fc4, Fn4, Fv4, V4⟩ := hQ4
    refine OEndsH.st st4 ?_
    replace N0 := Fr.app N0 Nq4
    replace E_a := E_a.keep Kq4
    replace F_topic_a := F_topic_a.keep Kq4 (ninS ne_a_b1 (ninS ne_a_t2 nin0))
    replace F_queueId_a := F_queueId_a.keep Kq4 (ninS ne_a_b1 (ninS ne_a_t2 nin0))
    replace E_tp := E_tp.keep Kq4
    replace F_coder_tp := F_coder_tp.keep Kq4 (ninS ne_tp_b1 (ninS ne_tp_t2 nin0))
    replace F_value_tp := F_value_tp.keep Kq4 (ninS ne_tp_b1 (ninS ne_tp_t2 nin0))
    replace V_tt := V_tt.keep Kq4 (ninS ne_tt_b1 (ninS ne_tt_t2 nin0))
    replace A1 := A1.keep Kq4
    replace Es3 := Es3.keep Kq4
    replace Fc3 := Fc3.keep Kq4 (ninS (Ne.symm ne_b1_b3) (ninS (Ne.symm ne_t2_b3) nin0))
    replace Fv3 := Fv3.keep Kq4 (ninS (Ne.symm ne_b1_b3) (ninS (Ne.symm ne_t2_b3) nin0))
    replace V3 := V3.keep Kq4 (ninS (Ne.symm ne_b1_t3) (ninS (Ne.symm ne_t2_t3) nin0))
    have S_b1' : Safe Z EL T3.vm h4 b1 := Safe.keep Kq4 (sfS S_b1 (sfS S_t2 sf0)) A0.1 S_b1
    have S_t2' : Safe Z EL T3.vm h4 t2 := Safe.keep Kq4 (sfS S_b1 (sfS S_t2 sf0)) A0.1 S_t2
    have A' : CHr Z EL s.vm s.heap T3.vm h4 := A0.trans (CHr.keep Kq4 (sfS S_b1 (sfS S_t2 sf0)) A0.1)
    replace S_b1 := S_b1'
    replace S_t2 := S_t2'
    replace A0 := A'
    replace hk3 := Nat.le_trans hk3 Kq4.1
    replace O0 : Ext Z.heap h4 := ext_keep O0 Kq4 (allS ge_b1 (allS ge_t2 all0))
    replace K0 : Keep h0 h4 [] := K0.trans Kq4 (allS (Or.inr sz_b1) (allS (Or.inr sz_t2) all0))
    obtain ⟨l5, V_l5, tk5, ln5⟩ : ∃ l, Arv Z h4 t2 k2 .byte (Int32.ofNat 16) l (.int 0) ∧ Tk l (([] : List Int32) ++ [113, 117, 101, 117, 101, 32]) ∧ l.length = 16 := ⟨_, V4, (tk_app tk_z rfl by_q.symm), rfl⟩
    refine OEndsH.st (S' := T4.setTop (mkF m 13 #[vr a] [(.ref a), (.ref b1)])) (fun _ k => ?_) ?_
    · refine XS.aloadN X4.here hx rfl (hb hby d_prog_5_2_12) rfl rfl ?_
      exact k
    obtain ⟨T6, X6, e6, st6⟩ := getF X4 hx hZ3 hown3 (host := "") (Or.inl (wq hw 36 rfl)) Via.refl e4 F_queueId_a (g := (mkF m 13 #[vr a] [(.ref a), (.ref b1)])) rfl rfl (hb hby d_prog_5_2_13)
    refine OEndsH.st st6 ?_
    obtain ⟨_, T7, h7, L7, X7, e7, hQ7, st7⟩ := virtC X6 hx hZ3 (y := (⟨"java/lang/StringBuilder", "append", "(I)Ljava/lang/StringBuilder;"⟩ : MethodName)) (z := (⟨"java/lang/StringBuilder", "append", "(I)Ljava/lang/StringBuilder;"⟩ : MethodName)) hown3 (wq hw 110 rfl) (wq hw 111 rfl) (nf_sel (args := #[]) (mvT hZ3 (wq hw 65 rfl)) rfl) (wq hw 113 rfl) (wq hw 112 rfl) (by decide) (kc := 1) (ks := 34) (Con.sb (W := 0) (rm_sbAppIG l hD b1 x t2 k2 6 l5 A d sg O0 A1 Fc4 Fn4 Fv4 V_l5 ln5 (by omega) (by omega) ge_b1 hDig hS hAb hsg) hZ3 (wq hw 114 rfl) (wq hw 45 rfl) (by decide) (by decide)) e6 A1 (g := (mkF m 16 #[vr a] [(.int x), (.ref b1)])) rfl (by rw [hml]; rfl) (argsL := [(.int x)]) (rest := []) (lenOf pd_21 rfl) rfl (by show 2 * 0 + _ ≤ _; exact Nat.le_of_eq rfl) (hb hby d_prog_5_2_16) (by decide) (by decide)
    obtain ⟨r7, kr7, vs7, rfl, Nq7, Kq7, szq7, hl7, tt7, dr7, Eq7, Fc7, Fn7, Fv7, V7⟩ := hQ7
    refine OEndsH.st st7 ?_
    replace N0 := Fr.app N0 Nq7
    have ne_a_r7 : a ≠ r7 := Nat.ne_of_lt (Nat.lt_of_lt_of_le E_a.lt szq7)
    have ne_b1_r7 : b1 ≠ r7 := Nat.ne_of_lt (Nat.lt_of_lt_of_le A1.lt szq7)
    have ne_b3_r7 : b3 ≠ r7 := Nat.ne_of_lt (Nat.lt_of_lt_of_le Es3.lt szq7)
    have ne_t2_r7 : t2 ≠ r7 := Nat.ne_of_lt (Nat.lt_of_lt_of_le V_l5.lt szq7)
    have ne_t3_r7 : t3 ≠ r7 := Nat.ne_of_lt (Nat.lt_of_lt_of_le V3.lt szq7)
    have ne_tp_r7 : tp ≠ r7 := Nat.ne_of_lt (Nat.lt_of_lt_of_le E_tp.lt szq7)
    have ne_tt_r7 : tt ≠ r7 := Nat.ne_of_lt (Nat.lt_of_lt_of_le V_tt.lt szq7)
    have ge_r7 : Z.heap.size ≤ r7 := Nat.le_trans O0.1 szq7
    have S_r7 : Safe Z EL T3.vm h4 r7 := Safe.new szq7
    have sz_r7 : h0.size ≤ r7 := Nat.le_trans K0.1 szq7
    replace E_a := E_a.keep Kq7
    replace F_topic_a := F_topic_a.keep Kq7 (ninS ne_a_b1 nin0)
    replace F_queueId_a := F_queueId_a.keep Kq7 (ninS ne_a_b1 nin0)
    replace E_tp := E_tp.keep Kq7
    replace F_coder_tp := F_coder_tp.keep Kq7 (ninS ne_tp_b1 nin0)
    replace F_value_tp := F_value_tp.keep Kq7 (ninS ne_tp_b1 nin0)
    replace V_tt := V_tt.keep Kq7 (ninS ne_tt_b1 nin0)
    replace A1 := A1.keep Kq7
    replace Es3 := Es3.keep Kq7
    replace Fc3 := Fc3.keep Kq7 (ninS (Ne.symm ne_b1_b3) nin0)
    replace Fv3 := Fv3.keep Kq7 (ninS (Ne.symm ne_b1_b3) nin0)
    replace V3 := V3.keep Kq7 (ninS (Ne.symm ne_b1_t3) nin0)
    replace V_l5 := V_l5.keep Kq7 (ninS (Ne.symm ne_b1_t2) nin0)
    have S_b1' : Safe Z EL T3.vm h7 b1 := Safe.keep Kq7 (sfS S_b1 sf0) A0.1 S_b1
    have S_t2' : Safe Z EL T3.vm h7 t2 := Safe.keep Kq7 (sfS S_b1 sf0) A0.1 S_t2
    have S_r7' : Safe Z EL T3.vm h7 r7 := Safe.keep Kq7 (sfS S_b1 sf0) A0.1 S_r7
    have A' : CHr Z EL s.vm s.heap T3.vm h7 := A0.trans (CHr.keep Kq7 (sfS S_b1 sf0) A0.1)
    replace S_b1 := S_b1'
    replace S_t2 := S_t2'
    replace S_r7 := S_r7'
    replace A0 := A'
    replace hk3 := Nat.le_trans hk3 Kq7.1
    replace O0 : Ext Z.heap h7 := ext_keep O0 Kq7 (allS ge_b1 all0)
    replace K0 : Keep h0 h7 [] := K0.trans Kq7 (allS (Or.inr sz_b1) all0)
    obtain ⟨l8, V_l8, tk8, ln8⟩ : ∃ l, Arv Z h7 r7 kr7 .byte (Int32.ofNat 34) l (.int 0) ∧ Tk l ((([] : List Int32) ++ [113, 117, 101, 117, 101, 32]) ++ (List.replicate sg 45 ++ dgs A d)) ∧ l.length = 34 := ⟨_, V7, (tk_int (tk_grow tk5 (by rw [ln5]; decide)) rfl tt7 dr7), hl7⟩
    have L2 : ((([] : List Int32) ++ [113, 117, 101, 117, 101, 32]) ++ (List.replicate sg 45 ++ dgs A d)).length = (6 + d + sg) := by simp [dgs_len]; omega
    obtain ⟨b9, T9, h9, k19, t9, kb9, X9, e9, E9, hS9, hk9, hZ9, hown9, Es9, Fc9, Fv9, V9, -, -, Aq9, -, nes9, st9⟩ := ldcCH X7 hx hZ3 hown3 (wq hw 132 rfl) hsa e7 hS3 hk3 hEL (List.mem_of_getElem? (i := 2) rfl) A0.1 (vs := [(.int 32), (.int 111), (.int 102), (.int 32), (.int 116), (.int 111), (.int 112), (.int 105), (.int 99), (.int 32)]) (z := (10 : Int32)) ⟨by decide, by decide⟩ (by decide) rfl (g := (mkF m 19 #[vr a] [(.ref b1)])) rfl (hb hby d_prog_5_2_19) (n := 40) (by decide) (by decide) (by decide) (by decide)
    replace hZ9 : Z.Warmed39 T9.vm := hZ9
    replace hown9 : T9.vm.findClass "com/example/wire_to_worker/wiretoworker/broker/QueueName" = some m.cls := hown9
    replace S_b1 : Safe Z EL T9.vm h9 b1 := Aq9.safe A1.lt S_b1
    replace S_t2 : Safe Z EL T9.vm h9 t2 := Aq9.safe V_l5.lt S_t2
    replace S_r7 : Safe Z EL T9.vm h9 r7 := Aq9.safe V_l8.lt S_r7
    replace A0 : CHr Z EL s.vm s.heap T9.vm h9 := A0.trans Aq9
    refine OEndsH.st st9 ?_
    have ne_b1_b9 : b1 ≠ b9 := (nes9 b1 S_b1).1
    have ne_b1_t9 : b1 ≠ t9 := (nes9 b1 S_b1).2
    have ne_t2_b9 : t2 ≠ b9 := (nes9 t2 S_t2).1
    have ne_t2_t9 : t2 ≠ t9 := (nes9 t2 S_t2).2
    have ne_r7_b9 : r7 ≠ b9 := (nes9 r7 S_r7).1
    have ne_r7_t9 : r7 ≠ t9 := (nes9 r7 S_r7).2
    replace E_a := E_a.ext E9
    replace F_topic_a := F_topic_a.ext E9
    replace F_queueId_a := F_queueId_a.ext E9
    replace E_tp := E_tp.ext E9
    replace F_coder_tp := F_coder_tp.ext E9
    replace F_value_tp := F_value_tp.ext E9
    replace V_tt := V_tt.ext E9
    replace A1 := A1.ext E9
    replace Es3 := Es3.ext E9
    replace Fc3 := Fc3.ext E9
    replace Fv3 := Fv3.ext E9
    replace V3 := V3.ext E9
    replace V_l5 := V_l5.ext E9
    replace Fc7 := Fc7.ext E9
    replace Fn7 := Fn7.ext E9
    replace Fv7 := Fv7.ext E9
    replace V_l8 := V_l8.ext E9
    replace O0 : Ext Z.heap h9 := ext_trans O0 E9
    replace K0 : Keep h0 h9 [] := K0.ext E9
    obtain ⟨_, T10, h10, L10, X10, e10, hQ10, st10⟩ := virtC X9 hx hZ9 (y := (⟨"java/lang/StringBuilder", "append", "(Ljava/lang/String;)Ljava/lang/StringBuilder;"⟩ : MethodName)) (z := (⟨"java/lang/StringBuilder", "append", "(Ljava/lang/String;)Ljava/lang/StringBuilder;"⟩ : MethodName)) hown9 (wq hw 62 rfl) (wq hw 63 rfl) (nf_sel (args := #[]) (mvT hZ9 (wq hw 65 rfl)) rfl) (wq hw 65 rfl) (wq hw 64 rfl) (by decide) (kc := 0) (ks := 0) (Con.sb (W := 0) (rm_sbAppS l hD b1 b9 r7 kr7 34 (6 + d + sg) l8 t9 kb9 10 [(.int 32), (.int 111), (.int 102), (.int 32), (.int 116), (.int 111), (.int 112), (.int 105), (.int 99), (.int 32)] O0 A1 Fc7 Fn7 Fv7 V_l8 Es9 Fc9 Fv9 V9 ln8 (by decide) rfl (by omega) ge_b1 ge_r7 ne_b1_r7) hZ9 (wq hw 66 rfl) (wq hw 45 rfl) (by decide) (by decide)) e9 A1 (g := (mkF m 21 #[vr a] [(.ref b9), (.ref b1)])) rfl (by rw [hml]; rfl) (argsL := [(.ref b9)]) (rest := []) (lenOf pd_20 rfl) rfl (by show 2 * 0 + _ ≤ _; exact Nat.le_of_eq rfl) (hb hby d_prog_5_2_21) (by decide) (by decide)
    obtain ⟨rfl, Nq10, Kq10, Eq10, Fc10, Fn10, Fv10, V10⟩ := hQ10
    refine OEndsH.st st10 ?_
    replace N0 := Fr.app N0 Nq10
    replace E_a := E_a.keep Kq10
    replace F_topic_a := F_topic_a.keep Kq10 (ninS ne_a_b1 (ninS ne_a_r7 nin0))
    replace F_queueId_a := F_queueId_a.keep Kq10 (ninS ne_a_b1 (ninS ne_a_r7 nin0))
    replace E_tp := E_tp.keep Kq10
    replace F_coder_tp := F_coder_tp.keep Kq10 (ninS ne_tp_b1 (ninS ne_tp_r7 nin0))
    replace F_value_tp := F_value_tp.keep Kq10 (ninS ne_tp_b1 (ninS ne_tp_r7 nin0))
    replace V_tt := V_tt.keep Kq10 (ninS ne_tt_b1 (ninS ne_tt_r7 nin0))
    replace A1 := A1.keep Kq10
    replace Es3 := Es3.keep Kq10
    replace Fc3 := Fc3.keep Kq10 (ninS (Ne.symm ne_b1_b3) (ninS ne_b3_r7 nin0))
    replace Fv3 := Fv3.keep Kq10 (ninS (Ne.symm ne_b1_b3) (ninS ne_b3_r7 nin0))
    replace V3 := V3.keep Kq10 (ninS (Ne.symm ne_b1_t3) (ninS ne_t3_r7 nin0))
    replace V_l5 := V_l5.keep Kq10 (ninS (Ne.symm ne_b1_t2) (ninS ne_t2_r7 nin0))
    replace Es9 := Es9.keep Kq10
    replace Fc9 := Fc9.keep Kq10 (ninS (Ne.symm ne_b1_b9) (ninS (Ne.symm ne_r7_b9) nin0))
    replace Fv9 := Fv9.keep Kq10 (ninS (Ne.symm ne_b1_b9) (ninS (Ne.symm ne_r7_b9) nin0))
    replace V9 := V9.keep Kq10 (ninS (Ne.symm ne_b1_t9) (ninS (Ne.symm ne_r7_t9) nin0))
    have S_b1' : Safe Z EL T9.vm h10 b1 := Safe.keep Kq10 (sfS S_b1 (sfS S_r7 sf0)) A0.1 S_b1
    have S_t2' : Safe Z EL T9.vm h10 t2 := Safe.keep Kq10 (sfS S_b1 (sfS S_r7 sf0)) A0.1 S_t2
    have S_r7' : Safe Z EL T9.vm h10 r7 := Safe.keep Kq10 (sfS S_b1 (sfS S_r7 sf0)) A0.1 S_r7
    have A' : CHr Z EL s.vm s.heap T9.vm h10 := A0.trans (CHr.keep Kq10 (sfS S_b1 (sfS S_r7 sf0)) A0.1)
    replace S_b1 := S_b1'
    replace S_t2 := S_t2'
    replace S_r7 := S_r7'
    replace A0 := A'
    replace hk9 := Nat.le_trans hk9 Kq10.1
    replace O0 : Ext Z.heap h10 := ext_keep O0 Kq10 (allS ge_b1 (allS ge_r7 all0))
    replace K0 : Keep h0 h10 [] := K0.trans Kq10 (allS (Or.inr sz_b1) (allS (Or.inr sz_r7) all0))
    obtain ⟨l11, V_l11, tk11, ln11⟩ : ∃ l, Arv Z h10 r7 kr7 .byte (Int32.ofNat 34) l (.int 0) ∧ Tk l (((([] : List Int32) ++ [113, 117, 101, 117, 101, 32]) ++ (List.replicate sg 45 ++ dgs A d)) ++ [32, 111, 102, 32, 116, 111, 112, 105, 99, 32]) ∧ l.length = 34 := ⟨_, V10, (tk_app tk8 L2.symm by_o.symm), (len_cp ln8 rfl (by omega))⟩
    have L3 : (((([] : List Int32) ++ [113, 117, 101, 117, 101, 32]) ++ (List.replicate sg 45 ++ dgs A d)) ++ [32, 111, 102, 32, 116, 111, 112, 105, 99, 32]).length = ((6 + d + sg) + 10) := by rw [List.length_append, L2]; rfl
    refine OEndsH.st (S' := T10.setTop (mkF m 25 #[vr a] [(.ref a), (.ref b1)])) (fun _ k => ?_) ?_
    · refine XS.aloadN X10.here hx rfl (hb hby d_prog_5_2_24) rfl rfl ?_
      exact k
    obtain ⟨T12, X12, e12, st12⟩ := getF X10 hx hZ9 hown9 (host := "") (Or.inl (wq hw 34 rfl)) Via.refl e10 F_topic_a (g := (mkF m 25 #[vr a] [(.ref a), (.ref b1)])) rfl rfl (hb hby d_prog_5_2_25)
    refine OEndsH.st st12 ?_
    obtain ⟨_, T13, h13, L13, X13, e13, hQ13, st13⟩ := virtC X12 hx hZ9 (y := (⟨"java/lang/StringBuilder", "append", "(Ljava/lang/String;)Ljava/lang/StringBuilder;"⟩ : MethodName)) (z := (⟨"java/lang/StringBuilder", "append", "(Ljava/lang/String;)Ljava/lang/StringBuilder;"⟩ : MethodName)) hown9 (wq hw 62 rfl) (wq hw 63 rfl) (nf_sel (args := #[]) (mvT hZ9 (wq hw 65 rfl)) rfl) (wq hw 65 rfl) (wq hw 64 rfl) (by decide) (kc := 0) (ks := 0) (Con.sb (W := 0) (rm_sbAppS l hD b1 tp r7 kr7 34 ((6 + d + sg) + 10) l11 tt kt tn (bys cs) O0 A1 Fc10 Fn10 Fv10 V_l11 E_tp F_coder_tp F_value_tp V_tt ln11 (by decide) (bys_len.trans hcs) (by omega) ge_b1 ge_r7 ne_b1_r7) hZ9 (wq hw 66 rfl) (wq hw 45 rfl) (by decide) (by decide)) e12 A1 (g := (mkF m 28 #[vr a] [(.ref tp), (.ref b1)])) rfl (by rw [hml]; rfl) (argsL := [(.ref tp)]) (rest := []) (lenOf pd_20 rfl) rfl (by show 2 * 0 + _ ≤ _; exact Nat.le_of_eq rfl) (hb hby d_prog_5_2_28) (by decide) (by decide)
    obtain ⟨rfl, Nq13, Kq13, Eq13, Fc13, Fn13, Fv13, V13⟩ := hQ13
    refine OEndsH.st st13 ?_
    replace N0 := Fr.app N0 Nq13
    replace E_a := E_a.keep Kq13
    replace F_topic_a := F_topic_a.keep Kq13 (ninS ne_a_b1 (ninS ne_a_r7 nin0))
    replace F_queueId_a := F_queueId_a.keep Kq13 (ninS ne_a_b1 (ninS ne_a_r7 nin0))
    replace E_tp := E_tp.keep Kq13
    replace F_coder_tp := F_coder_tp.keep Kq13 (ninS ne_tp_b1 (ninS ne_tp_r7 nin0))
    replace F_value_tp := F_value_tp.keep Kq13 (ninS ne_tp_b1 (ninS ne_tp_r7 nin0))
    replace V_tt := V_tt.keep Kq13 (ninS ne_tt_b1 (ninS ne_tt_r7 nin0))
    replace A1 := A1.keep Kq13
    replace Es3 := Es3.keep Kq13
    replace Fc3 := Fc3.keep Kq13 (ninS (Ne.symm ne_b1_b3) (ninS ne_b3_r7 nin0))
    replace Fv3 := Fv3.keep Kq13 (ninS (Ne.symm ne_b1_b3) (ninS ne_b3_r7 nin0))
    replace V3 := V3.keep Kq13 (ninS (Ne.symm ne_b1_t3) (ninS ne_t3_r7 nin0))
    replace V_l5 := V_l5.keep Kq13 (ninS (Ne.symm ne_b1_t2) (ninS ne_t2_r7 nin0))
    replace Es9 := Es9.keep Kq13
    replace Fc9 := Fc9.keep Kq13 (ninS (Ne.symm ne_b1_b9) (ninS (Ne.symm ne_r7_b9) nin0))
    replace Fv9 := Fv9.keep Kq13 (ninS (Ne.symm ne_b1_b9) (ninS (Ne.symm ne_r7_b9) nin0))
    replace V9 := V9.keep Kq13 (ninS (Ne.symm ne_b1_t9) (ninS (Ne.symm ne_r7_t9) nin0))
    have S_b1' : Safe Z EL T9.vm h13 b1 := Safe.keep Kq13 (sfS S_b1 (sfS S_r7 sf0)) A0.1 S_b1
    have S_t2' : Safe Z EL T9.vm h13 t2 := Safe.keep Kq13 (sfS S_b1 (sfS S_r7 sf0)) A0.1 S_t2
    have S_r7' : Safe Z EL T9.vm h13 r7 := Safe.keep Kq13 (sfS S_b1 (sfS S_r7 sf0)) A0.1 S_r7
    have A' : CHr Z EL s.vm s.heap T9.vm h13 := A0.trans (CHr.keep Kq13 (sfS S_b1 (sfS S_r7 sf0)) A0.1)
    replace S_b1 := S_b1'
    replace S_t2 := S_t2'
    replace S_r7 := S_r7'
    replace A0 := A'
    replace hk9 := Nat.le_trans hk9 Kq13.1
    replace O0 : Ext Z.heap h13 := ext_keep O0 Kq13 (allS ge_b1 (allS ge_r7 all0))
    replace K0 : Keep h0 h13 [] := K0.trans Kq13 (allS (Or.inr sz_b1) (allS (Or.inr sz_r7) all0))
    obtain ⟨l14, V_l14, tk14, ln14⟩ : ∃ l, Arv Z h13 r7 kr7 .byte (Int32.ofNat 34) l (.int 0) ∧ Tk l ((((([] : List Int32) ++ [113, 117, 101, 117, 101, 32]) ++ (List.replicate sg 45 ++ dgs A d)) ++ [32, 111, 102, 32, 116, 111, 112, 105, 99, 32]) ++ cs) ∧ l.length = 34 := ⟨_, V13, (tk_app tk11 L3.symm rfl), (len_cp ln11 (bys_len.trans hcs) (by omega))⟩
    have L4 : ((((([] : List Int32) ++ [113, 117, 101, 117, 101, 32]) ++ (List.replicate sg 45 ++ dgs A d)) ++ [32, 111, 102, 32, 116, 111, 112, 105, 99, 32]) ++ cs).length = (((6 + d + sg) + 10) + tn) := by rw [List.length_append, L3, hcs]
    have Q4 : (((([] : List Int32) ++ [113, 117, 101, 117, 101, 32]) ++ (List.replicate sg 45 ++ dgs A d)) ++ [32, 111, 102, 32, 116, 111, 112, 105, 99, 32]) ++ cs = qs sg A d cs := by simp [qs]
    obtain ⟨_, T15, h15, L15, X15, e15, hQ15, st15⟩ := virtC X13 hx hZ9 (y := (⟨"java/lang/StringBuilder", "toString", "()Ljava/lang/String;"⟩ : MethodName)) (z := (⟨"java/lang/StringBuilder", "toString", "()Ljava/lang/String;"⟩ : MethodName)) hown9 (wq hw 156 rfl) (wq hw 157 rfl) (nf_sel (args := #[]) (mvT hZ9 (wq hw 65 rfl)) rfl) (wq hw 159 rfl) (wq hw 158 rfl) (by decide) (kc := 2) (ks := 37) (Con.sb (W := 0) (rm_sbToStr l hD b1 r7 kr7 34 (((6 + d + sg) + 10) + tn) l14 O0 A1 Fc13 Fn13 Fv13 V_l14 ln14 (by decide) (by omega) (by omega)) hZ9 (wq hw 160 rfl) (wq hw 45 rfl) (by decide) (by decide)) e13 A1 (g := (mkF m 31 #[vr a] [(.ref b1)])) rfl (by rw [hml]; rfl) (argsL := []) (rest := []) (lenOf pd_22 rfl) rfl (by show 2 * 0 + _ ≤ _; exact Nat.le_of_eq rfl) (hb hby d_prog_5_2_31) (by decide) (by decide)
    obtain ⟨a15, r15, kr15, rfl, Nq15, Kq15, -, -, -, Ea15, Fca15, Fva15, Va15⟩ := hQ15
    refine OEndsH.st st15 ?_
    replace N0 := Fr.app N0 Nq15
    replace E_a := E_a.keep Kq15
    replace F_topic_a := F_topic_a.keep Kq15 nin0
    replace F_queueId_a := F_queueId_a.keep Kq15 nin0
    replace E_tp := E_tp.keep Kq15
    replace F_coder_tp := F_coder_tp.keep Kq15 nin0
    replace F_value_tp := F_value_tp.keep Kq15 nin0
    replace V_tt := V_tt.keep Kq15 nin0
    replace A1 := A1.keep Kq15
    replace Es3 := Es3.keep Kq15
    replace Fc3 := Fc3.keep Kq15 nin0
    replace Fv3 := Fv3.keep Kq15 nin0
    replace V3 := V3.keep Kq15 nin0
    replace V_l5 := V_l5.keep Kq15 nin0
    replace Es9 := Es9.keep Kq15
    replace Fc9 := Fc9.keep Kq15 nin0
    replace Fv9 := Fv9.keep Kq15 nin0
    replace V9 := V9.keep Kq15 nin0
    replace Fc13 := Fc13.keep Kq15 nin0
    replace Fn13 := Fn13.keep Kq15 nin0
    replace Fv13 := Fv13.keep Kq15 nin0
    replace V_l14 := V_l14.keep Kq15 nin0
    have S_b1' : Safe Z EL T9.vm h15 b1 := Safe.keep Kq15 sf0 A0.1 S_b1
    have S_t2' : Safe Z EL T9.vm h15 t2 := Safe.keep Kq15 sf0 A0.1 S_t2
    have S_r7' : Safe Z EL T9.vm h15 r7 := Safe.keep Kq15 sf0 A0.1 S_r7
    have A' : CHr Z EL s.vm s.heap T9.vm h15 := A0.trans (CHr.keep Kq15 sf0 A0.1)
    replace S_b1 := S_b1'
    replace S_t2 := S_t2'
    replace S_r7 := S_r7'
    replace A0 := A'
    replace hk9 := Nat.le_trans hk9 Kq15.1
    replace O0 : Ext Z.heap h15 := ext_keep O0 Kq15 all0
    replace K0 : Keep h0 h15 [] := K0.trans Kq15 all0
    have hfin : l14.take (((6 + d + sg) + 10) + tn) = bys (qs sg A d cs) := by rw [← L4, ← Q4]; exact tk14
    rw [hfin, ← L4, Q4] at Va15
    exact OEndsH.ret X15 hx hZ9 hEL e15 hS9 hk9 A0 hret hlk rfl (Or.inr (Or.inr (Or.inr (Or.inr ⟨rfl, rfl, rfl⟩)))) (hb hby d_prog_5_2_34) (by decide) (by decide) ⟨a15, rfl, N0, K0, Ea15, Fca15, r15, kr15, Fva15, Va15⟩
-- java/lang/String.isLatin1:()Z
def Q_isLatS (Z : State) (a : Addr) (h0 : Heap) (v : Option Value) (h : Heap) (L : List Loc) : Prop := v = some (.int 1) ∧ Fr Z.heap.size L ∧ h = h0
theorem ef_isLatS (m : MethodId) (a : Addr) : entryFrame m #[(.ref a)] 1 = mkF m 0 #[vr a] [] := by first | (simp [entryFrame, mkF, argsToLocals, Value.category, vi, vj, vr]; done) | rfl
theorem d_jdk_42_154_0 : decode jdk_42_method_154_code 0 = .ok (.getstatic 38, 3) := by decide +kernel
theorem d_jdk_42_154_3 : decode jdk_42_method_154_code 3 = .ok (.ifCond .eq 14, 3) := by decide +kernel
theorem d_jdk_42_154_6 : decode jdk_42_method_154_code 6 = .ok (.aload_n 0, 1) := by decide +kernel
theorem d_jdk_42_154_7 : decode jdk_42_method_154_code 7 = .ok (.getfield 15, 3) := by decide +kernel
theorem d_jdk_42_154_10 : decode jdk_42_method_154_code 10 = .ok (.ifCond .ne 7, 3) := by decide +kernel
theorem d_jdk_42_154_13 : decode jdk_42_method_154_code 13 = .ok (.iconst 1, 1) := by decide +kernel
theorem d_jdk_42_154_14 : decode jdk_42_method_154_code 14 = .ok (.goto 4, 3) := by decide +kernel
theorem d_jdk_42_154_18 : decode jdk_42_method_154_code 18 = .ok (.ireturn, 1) := by decide +kernel
set_option maxRecDepth 65536 in
set_option maxHeartbeats 40000000 in
theorem rm_isLatS (l : Launch) {Z : State} {a0 : Array Value} (hD : Wd Z a0) (a : Addr) {h0 : Heap} (O0 : Ext Z.heap h0) (F_coder_a : Fld Z h0 a "java/lang/String" "coder" "B" (.int 0)) :
    Con l Z (⟨"java/lang/String", "isLatin1", "()Z"⟩ : MethodName) jdk_42_method_154_code 1 (some .boolean) [] ({ frames := 0, cells := 0, slots := 0, locals := 0 } : Room) #[(.ref a)] h0 (Q_isLatS Z a h0) := by
  refine Con.walk (plainFor_of_name pn_0) ?_
  intro p e s m below meth c T0 X0 hx hZ hby hml hown hnm hret hlk e0
  obtain ⟨hw, ⟨cz, S_CS, hcz⟩, ⟨sf, S_SF, hsf⟩, ⟨d1, d2, kd1, kd2, S_D1, S_D2, V_D1, V_D2⟩⟩ := id hD
  have N0 := Fr.nil Z.heap.size
  refine OEnds.cast (ef_isLatS m a) ?_
  obtain ⟨T1, X1, e1, st1⟩ := getS2 X0 hx hZ hown (host := "") (Or.inl (wq hw 82 rfl)) Via.refl e0 (S_CS.ext O0) (g := (mkF m 0 #[vr a] [])) rfl (hb hby d_jdk_42_154_0)
  refine OEnds.st st1 ?_
  refine OEnds.st (S' := T1.setTop (mkF m 7 #[vr a] [(.ref a)])) (fun _ k => ?_) ?_
  · refine XS.ifNo X1.here hx rfl (hb hby d_jdk_42_154_3) rfl ((if0 _ _).trans (feq hcz).1) ?_
    refine XS.aloadN X1.here hx rfl (hb hby d_jdk_42_154_6) rfl rfl ?_
    exact k
  obtain ⟨T2, X2, e2, st2⟩ := getF X1 hx hZ hown (host := "") (Or.inl (wq hw 21 rfl)) Via.refl e1 F_coder_a (g := (mkF m 7 #[vr a] [(.ref a)])) rfl rfl (hb hby d_jdk_42_154_7)
  refine OEnds.st st2 ?_
  refine OEnds.st (S' := T2.setTop (mkF m 18 #[vr a] [(.int 1)])) (fun _ k => ?_) ?_
  · refine XS.ifNo X2.here hx rfl (hb hby d_jdk_42_154_10) rfl ((if0 _ _).trans (teq (by decide)).2) ?_
    refine XS.iconst X2.here hx rfl (hb hby d_jdk_42_154_13) ?_
    refine XS.goto X2.here hx rfl (pc0 := 14) (pc' := 18) rfl (hb hby d_jdk_42_154_14) (by decide) (by decide) ?_
    exact k
  exact OEnds.ret X2 hx hret hlk (by decide) (Or.inl ⟨rfl, by simp, _, rfl⟩) (hb hby d_jdk_42_154_18) (by decide) (by decide) (by rw [e2]; exact ⟨rfl, N0, rfl⟩)
-- jdk/internal/util/Preconditions.checkIndex:(IILjava/util/function/BiFunction;)I
def Q_chkI (Z : State) (j : Int32) (z : Int32) (f : Value) (h0 : Heap) (v : Option Value) (h : Heap) (L : List Loc) : Prop := v = some (.int j) ∧ Fr Z.heap.size L ∧ h = h0
theorem ef_chkI (m : MethodId) (j : Int32) (z : Int32) (f : Value) (hr_f : f.category = 1) : entryFrame m #[(.int j), (.int z), f] 3 = mkF m 0 #[vi j, vi z, .val f] [] := by first | (simp [entryFrame, mkF, argsToLocals, cat_i, cat_j, cat_r, cat_n, vi, vj, vr, hr_f]; done) | rfl
theorem pn_8 : plainName "jdk/internal/util/Preconditions" = true := by first | (simp [plainName, overriddenIn]; done) | decide +kernel
theorem d_jdk_41_11_0 : decode jdk_41_method_11_code 0 = .ok (.iload_n 0, 1) := by decide +kernel
theorem d_jdk_41_11_1 : decode jdk_41_method_11_code 1 = .ok (.ifCond .lt 8, 3) := by decide +kernel
theorem d_jdk_41_11_4 : decode jdk_41_method_11_code 4 = .ok (.iload_n 0, 1) := by decide +kernel
theorem d_jdk_41_11_5 : decode jdk_41_method_11_code 5 = .ok (.iload_n 1, 1) := by decide +kernel
theorem d_jdk_41_11_6 : decode jdk_41_method_11_code 6 = .ok (.if_icmp .lt 10, 3) := by decide +kernel
theorem d_jdk_41_11_16 : decode jdk_41_method_11_code 16 = .ok (.iload_n 0, 1) := by decide +kernel
theorem d_jdk_41_11_17 : decode jdk_41_method_11_code 17 = .ok (.ireturn, 1) := by decide +kernel
set_option maxRecDepth 65536 in
set_option maxHeartbeats 40000000 in
theorem rm_chkI (l : Launch) {Z : State} {a0 : Array Value} (hD : Wd Z a0) (j : Int32) (z : Int32) (f : Value) {h0 : Heap} (O0 : Ext Z.heap h0) (hj : ¬ j < 0 ∧ j < z) (hf : f.isRef = true) :
    Con l Z (⟨"jdk/internal/util/Preconditions", "checkIndex", "(IILjava/util/function/BiFunction;)I"⟩ : MethodName) jdk_41_method_11_code 3 (some .int) [] ({ frames := 0, cells := 0, slots := 0, locals := 0 } : Room) #[(.int j), (.int z), f] h0 (Q_chkI Z j z f h0) := by
  refine Con.walk (plainFor_of_name pn_8) ?_
  intro p e s m below meth c T0 X0 hx hZ hby hml hown hnm hret hlk e0
  obtain ⟨hw, ⟨cz, S_CS, hcz⟩, ⟨sf, S_SF, hsf⟩, ⟨d1, d2, kd1, kd2, S_D1, S_D2, V_D1, V_D2⟩⟩ := id hD
  have N0 := Fr.nil Z.heap.size
  refine OEnds.cast (ef_chkI m j z f (Jvm.Free.XT.cat1 hf)) ?_
  refine OEnds.st (S' := T0.setTop (mkF m 17 #[vi j, vi z, .val f] [(.int j)])) (fun _ k => ?_) ?_
  · refine XS.iloadN X0.here hx rfl (hb hby d_jdk_41_11_0) rfl ?_
    refine XS.ifNo X0.here hx rfl (hb hby d_jdk_41_11_1) rfl ((if0 _ _).trans (flt hj.1).1) ?_
    refine XS.iloadN X0.here hx rfl (hb hby d_jdk_41_11_4) rfl ?_
    refine XS.iloadN X0.here hx rfl (hb hby d_jdk_41_11_5) rfl ?_
    show Steps p.tables e below (T0.setTop (mkF m 6 #[vi j, vi z, .val f] [(.int z), (.int j)])) _
    refine XS.icmpYes X0.here hx rfl (pc0 := 6) (pc' := 16) rfl (hb hby d_jdk_41_11_6) rfl (tlt hj.2).1 (by decide) (by decide) ?_
    refine XS.iloadN X0.here hx rfl (hb hby d_jdk_41_11_16) rfl ?_
    exact k
  exact OEnds.ret X0 hx hret hlk rfl (Or.inl ⟨rfl, by simp, _, rfl⟩) (hb hby d_jdk_41_11_17) (by decide) (by decide) (by rw [e0]; exact ⟨rfl, N0, rfl⟩)
-- java/lang/String.checkIndex:(II)V
def Q_chkIS (Z : State) (j : Int32) (z : Int32) (h0 : Heap) (v : Option Value) (h : Heap) (L : List Loc) : Prop := v = none ∧ Fr Z.heap.size L ∧ h = h0
theorem ef_chkIS (m : MethodId) (j : Int32) (z : Int32) : entryFrame m #[(.int j), (.int z)] 2 = mkF m 0 #[vi j, vi z] [] := by first | (simp [entryFrame, mkF, argsToLocals, Value.category, vi, vj, vr]; done) | rfl
theorem d_jdk_42_155_0 : decode jdk_42_method_155_code 0 = .ok (.iload_n 0, 1) := by decide +kernel
theorem d_jdk_42_155_1 : decode jdk_42_method_155_code 1 = .ok (.iload_n 1, 1) := by decide +kernel
theorem d_jdk_42_155_2 : decode jdk_42_method_155_code 2 = .ok (.getstatic 1053, 3) := by decide +kernel
theorem d_jdk_42_155_5 : decode jdk_42_method_155_code 5 = .ok (.invokestatic 1059, 3) := by decide +kernel
theorem pd_23 : parseMethodDescriptor "(IILjava/util/function/BiFunction;)I" = some ⟨[.int, .int, (.object "java/util/function/BiFunction")], some .int⟩ := by decide +kernel
theorem d_jdk_42_155_8 : decode jdk_42_method_155_code 8 = .ok (.pop, 1) := by decide +kernel
theorem d_jdk_42_155_9 : decode jdk_42_method_155_code 9 = .ok (.return_, 1) := by decide +kernel
set_option maxRecDepth 65536 in
set_option maxHeartbeats 40000000 in
theorem rm_chkIS (l : Launch) {Z : State} {a0 : Array Value} (hD : Wd Z a0) (j : Int32) (z : Int32) {h0 : Heap} (O0 : Ext Z.heap h0) (hj : ¬ j < 0 ∧ j < z) :
    Con l Z (⟨"java/lang/String", "checkIndex", "(II)V"⟩ : MethodName) jdk_42_method_155_code 2 none [] ({ frames := 1, cells := 0, slots := 0, locals := 14 } : Room) #[(.int j), (.int z)] h0 (Q_chkIS Z j z h0) := by
  refine Con.walk (plainFor_of_name pn_0) ?_
  intro p e s m below meth c T0 X0 hx hZ hby hml hown hnm hret hlk e0
  obtain ⟨hw, ⟨cz, S_CS, hcz⟩, ⟨sf, S_SF, hsf⟩, ⟨d1, d2, kd1, kd2, S_D1, S_D2, V_D1, V_D2⟩⟩ := id hD
  have N0 := Fr.nil Z.heap.size
  refine OEnds.cast (ef_chkIS m j z) ?_
  refine OEnds.st (S' := T0.setTop (mkF m 2 #[vi j, vi z] [(.int z), (.int j)])) (fun _ k => ?_) ?_
  · refine XS.iloadN X0.here hx rfl (hb hby d_jdk_42_155_0) rfl ?_
    refine XS.iloadN X0.here hx rfl (hb hby d_jdk_42_155_1) rfl ?_
    exact k
  obtain ⟨T1, X1, e1, st1⟩ := getS2 X0 hx hZ hown (host := "") (Or.inl (wq hw 214 rfl)) Via.refl e0 (S_SF.ext O0) (g := (mkF m 2 #[vi j, vi z] [(.int z), (.int j)])) rfl (hb hby d_jdk_42_155_2)
  refine OEnds.st st1 ?_
  obtain ⟨_, T2, h2, L2, X2, e2, hQ2, st2⟩ := callC X1 hx hZ hown (wq hw 216 rfl) (wq hw 217 rfl) (wq hw 215 rfl) (wq hw 218 rfl) (by decide) (kc := 0) (ks := 0) (Con.sb (W := 0) (rm_chkI l hD j z sf O0 hj hsf) hZ (wq hw 218 rfl) (wq hw 215 rfl) (by decide) (by decide)) e1 (g := (mkF m 5 #[vi j, vi z] [sf, (.int z), (.int j)])) rfl (by rw [hml]; rfl) (argsL := [(.int j), (.int z), sf]) (rest := []) (lenOf pd_23 rfl) rfl (by show 2 * 0 + _ ≤ _; exact Nat.le_of_eq rfl) (hb hby d_jdk_42_155_5) (by decide) (by decide)
  obtain ⟨rfl, Nq2, Hq2⟩ := hQ2
  refine OEnds.st st2 ?_
  replace N0 := Fr.app N0 Nq2
  replace e2 := e2.trans Hq2
  refine OEnds.st (S' := T2.setTop (mkF m 9 #[vi j, vi z] [])) (fun _ k => ?_) ?_
  · refine XS.pop X2.here hx rfl (hb hby d_jdk_42_155_8) rfl rfl ?_
    exact k
  exact OEnds.retV X2 hx hret hlk (hb hby d_jdk_42_155_9) (by decide) (by decide) (by rw [e2]; exact ⟨rfl, N0, rfl⟩)
-- java/lang/StringLatin1.charAt:([BI)C
def Q_chAtL (Z : State) (t : Addr) (j : Nat) (k : ClassId) (cs : List Int32) (ch : Int32) (h0 : Heap) (v : Option Value) (h : Heap) (L : List Loc) : Prop := v = some (.int ch) ∧ Fr Z.heap.size L ∧ h = h0
theorem ef_chAtL (m : MethodId) (t : Addr) : entryFrame m #[(.ref t), (.int (Int32.ofNat j))] 2 = mkF m 0 #[vr t, vi (Int32.ofNat j)] [] := by first | (simp [entryFrame, mkF, argsToLocals, Value.category, vi, vj, vr]; done) | rfl
theorem pn_9 : plainName "java/lang/StringLatin1" = true := by first | (simp [plainName, overriddenIn]; done) | decide +kernel
theorem d_jdk_43_2_0 : decode jdk_43_method_2_code 0 = .ok (.iload_n 1, 1) := by decide +kernel
theorem d_jdk_43_2_1 : decode jdk_43_method_2_code 1 = .ok (.aload_n 0, 1) := by decide +kernel
theorem d_jdk_43_2_2 : decode jdk_43_method_2_code 2 = .ok (.arraylength, 1) := by decide +kernel
theorem d_jdk_43_2_3 : decode jdk_43_method_2_code 3 = .ok (.invokestatic 9, 3) := by decide +kernel
theorem d_jdk_43_2_6 : decode jdk_43_method_2_code 6 = .ok (.aload_n 0, 1) := by decide +kernel
theorem d_jdk_43_2_7 : decode jdk_43_method_2_code 7 = .ok (.iload_n 1, 1) := by decide +kernel
theorem d_jdk_43_2_8 : decode jdk_43_method_2_code 8 = .ok (.baload, 1) := by decide +kernel
theorem d_jdk_43_2_9 : decode jdk_43_method_2_code 9 = .ok (.sipush 255, 3) := by decide +kernel
theorem d_jdk_43_2_12 : decode jdk_43_method_2_code 12 = .ok (.iand, 1) := by decide +kernel
theorem d_jdk_43_2_13 : decode jdk_43_method_2_code 13 = .ok (.i2c, 1) := by decide +kernel
theorem d_jdk_43_2_14 : decode jdk_43_method_2_code 14 = .ok (.ireturn, 1) := by decide +kernel
set_option maxRecDepth 65536 in
set_option maxHeartbeats 40000000 in
theorem rm_chAtL (l : Launch) {Z : State} {a0 : Array Value} (hD : Wd Z a0) (t : Addr) (j : Nat) (k : ClassId) (cs : List Int32) (ch : Int32) {h0 : Heap} (O0 : Ext Z.heap h0) (V_t : Arv Z h0 t k .byte (Int32.ofNat cs.length) (bys cs) (.int 0)) (hl : cs.length ≤ 4000) (hjc : cs[j]? = some ch) (hc : ¬ ch < 0 ∧ ¬ (255 : Int32) < ch) :
    Con l Z (⟨"java/lang/StringLatin1", "charAt", "([BI)C"⟩ : MethodName) jdk_43_method_2_code 2 (some .char) [] ({ frames := 2, cells := 0, slots := 0, locals := 27 } : Room) #[(.ref t), (.int (Int32.ofNat j))] h0 (Q_chAtL Z t j k cs ch h0) := by
  refine Con.walk (plainFor_of_name pn_9) ?_
  intro p e s m below meth c T0 X0 hx hZ hby hml hown hnm hret hlk e0
  obtain ⟨hw, ⟨cz, S_CS, hcz⟩, ⟨sf, S_SF, hsf⟩, ⟨d1, d2, kd1, kd2, S_D1, S_D2, V_D1, V_D2⟩⟩ := id hD
  have N0 := Fr.nil Z.heap.size
  refine OEnds.cast (ef_chAtL m t) ?_
  have hjl : j < cs.length := (List.getElem?_eq_some_iff.mp hjc).1
  refine OEnds.st (S' := T0.setTop (mkF m 2 #[vr t, vi (Int32.ofNat j)] [(.ref t), (.int (Int32.ofNat j))])) (fun _ k => ?_) ?_
  · refine XS.iloadN X0.here hx rfl (hb hby d_jdk_43_2_0) rfl ?_
    refine XS.aloadN X0.here hx rfl (hb hby d_jdk_43_2_1) rfl rfl ?_
    exact k
  obtain ⟨cl_t_1, Ar_t_1, q_t_1, S_t_1, N_t_1, H_t_1, G_t_1⟩ := id V_t
  refine OEnds.st (S' := T0.setTop (mkF m 3 #[vr t, vi (Int32.ofNat j)] [(.int (Int32.ofNat cs.length)), (.int (Int32.ofNat j))])) (fun tg kq9 => X0.arraylength hx (by rw [e0]; exact Ar_t_1.1) (State.isArrayOf_alike hZ.alike Ar_t_1.2.1) (g := (mkF m 2 #[vr t, vi (Int32.ofNat j)] [(.ref t), (.int (Int32.ofNat j))])) rfl rfl (hb hby d_jdk_43_2_2) tg (by rw [len_of S_t_1 N_t_1]; exact kq9)) ?_
  obtain ⟨_, T2, h2, L2, X2, e2, hQ2, st2⟩ := callC X0 hx hZ hown (wq hw 211 rfl) (wq hw 212 rfl) (wq hw 3 rfl) (wq hw 213 rfl) (by decide) (kc := 0) (ks := 0) (Con.sb (W := 0) (rm_chkIS l hD (Int32.ofNat j) (Int32.ofNat cs.length) O0 (ix_in hjl hl)) hZ (wq hw 213 rfl) (wq hw 3 rfl) (by decide) (by decide)) e0 (g := (mkF m 3 #[vr t, vi (Int32.ofNat j)] [(.int (Int32.ofNat cs.length)), (.int (Int32.ofNat j))])) rfl (by rw [hml]; rfl) (argsL := [(.int (Int32.ofNat j)), (.int (Int32.ofNat cs.length))]) (rest := []) (lenOf pd_14 rfl) rfl (by show 2 * 0 + _ ≤ _; exact Nat.le_of_eq rfl) (hb hby d_jdk_43_2_3) (by decide) (by decide)
  obtain ⟨rfl, Nq2, Hq2⟩ := hQ2
  refine OEnds.st st2 ?_
  replace N0 := Fr.app N0 Nq2
  replace e2 := e2.trans Hq2
  refine OEnds.st (S' := T2.setTop (mkF m 8 #[vr t, vi (Int32.ofNat j)] [(.int (Int32.ofNat j)), (.ref t)])) (fun _ k => ?_) ?_
  · refine XS.aloadN X2.here hx rfl (hb hby d_jdk_43_2_6) rfl rfl ?_
    refine XS.iloadN X2.here hx rfl (hb hby d_jdk_43_2_7) rfl ?_
    exact k
  obtain ⟨cl_t_3, Ar_t_3, q_t_3, S_t_3, N_t_3, H_t_3, G_t_3⟩ := id V_t
  refine OEnds.st (S' := T2.setTop (mkF m 9 #[vr t, vi (Int32.ofNat j)] [(.int (ch.toInt8.toInt32))])) (X2.baloadBytes hx (j := (Int32.ofNat j)) (v := (.int (ch.toInt8.toInt32))) (by rw [e2]; exact Ar_t_3.1) (State.isArrayOf_alike hZ.alike Ar_t_3.2.1) Ar_t_3.2.2 (inb_of S_t_3 (ix_in hjl hl)) (H_t_3.at (inb_of S_t_3 (ix_in hjl hl)) (at_bys hjc (by omega))) (g := (mkF m 8 #[vr t, vi (Int32.ofNat j)] [(.int (Int32.ofNat j)), (.ref t)])) rfl rfl (hb hby d_jdk_43_2_8)) ?_
  refine OEnds.st (S' := T2.setTop (mkF m 14 #[vr t, vi (Int32.ofNat j)] [(.int (((ch.toInt8.toInt32) &&& (255 : Int32)).toUInt32.toUInt16.toUInt32.toInt32))])) (fun _ k => ?_) ?_
  · refine XS.sipush X2.here hx rfl (hb hby d_jdk_43_2_9) ?_
    refine XS.iand X2.here hx rfl (hb hby d_jdk_43_2_12) rfl ?_
    refine XS.i2c X2.here hx rfl (hb hby d_jdk_43_2_13) rfl ?_
    exact k
  rw [chr_back hc]
  exact OEnds.ret X2 hx hret hlk (nar255 hc) (Or.inl ⟨rfl, by simp, _, rfl⟩) (hb hby d_jdk_43_2_14) (by decide) (by decide) (by rw [e2]; exact ⟨rfl, N0, rfl⟩)
-- java/lang/String.charAt:(I)C
def Q_chAt (Z : State) (a : Addr) (j : Nat) (t : Addr) (k : ClassId) (cs : List Int32) (ch : Int32) (h0 : Heap) (v : Option Value) (h : Heap) (L : List Loc) : Prop := v = some (.int ch) ∧ Fr Z.heap.size L ∧ h = h0
theorem ef_chAt (m : MethodId) (a : Addr) : entryFrame m #[(.ref a), (.int (Int32.ofNat j))] 2 = mkF m 0 #[vr a, vi (Int32.ofNat j)] [] := by first | (simp [entryFrame, mkF, argsToLocals, Value.category, vi, vj, vr]; done) | rfl
theorem d_jdk_42_56_0 : decode jdk_42_method_56_code 0 = .ok (.aload_n 0, 1) := by decide +kernel
theorem d_jdk_42_56_1 : decode jdk_42_method_56_code 1 = .ok (.invokevirtual 492, 3) := by decide +kernel
theorem d_jdk_42_56_4 : decode jdk_42_method_56_code 4 = .ok (.ifCond .eq 12, 3) := by decide +kernel
theorem d_jdk_42_56_7 : decode jdk_42_method_56_code 7 = .ok (.aload_n 0, 1) := by decide +kernel
theorem d_jdk_42_56_8 : decode jdk_42_method_56_code 8 = .ok (.getfield 9, 3) := by decide +kernel
theorem d_jdk_42_56_11 : decode jdk_42_method_56_code 11 = .ok (.iload_n 1, 1) := by decide +kernel
theorem d_jdk_42_56_12 : decode jdk_42_method_56_code 12 = .ok (.invokestatic 495, 3) := by decide +kernel
theorem pd_24 : parseMethodDescriptor "([BI)C" = some ⟨[(.array .byte), .int], some .char⟩ := by decide +kernel
theorem d_jdk_42_56_15 : decode jdk_42_method_56_code 15 = .ok (.ireturn, 1) := by decide +kernel
set_option maxRecDepth 65536 in
set_option maxHeartbeats 40000000 in
theorem rm_chAt (l : Launch) {Z : State} {a0 : Array Value} (hD : Wd Z a0) (a : Addr) (j : Nat) (t : Addr) (k : ClassId) (cs : List Int32) (ch : Int32) {h0 : Heap} (O0 : Ext Z.heap h0) (E_a : Exa Z h0 a "java/lang/String") (F_coder_a : Fld Z h0 a "java/lang/String" "coder" "B" (.int 0)) (F_value_a : Fld Z h0 a "java/lang/String" "value" "[B" (.ref t)) (V_t : Arv Z h0 t k .byte (Int32.ofNat cs.length) (bys cs) (.int 0)) (hl : cs.length ≤ 4000) (hjc : cs[j]? = some ch) (hc : ¬ ch < 0 ∧ ¬ (255 : Int32) < ch) :
    Con l Z (⟨"java/lang/String", "charAt", "(I)C"⟩ : MethodName) jdk_42_method_56_code 2 (some .char) [] ({ frames := 3, cells := 0, slots := 0, locals := 40 } : Room) #[(.ref a), (.int (Int32.ofNat j))] h0 (Q_chAt Z a j t k cs ch h0) := by
  refine Con.walk (plainFor_of_name pn_0) ?_
  intro p e s m below meth c T0 X0 hx hZ hby hml hown hnm hret hlk e0
  obtain ⟨hw, ⟨cz, S_CS, hcz⟩, ⟨sf, S_SF, hsf⟩, ⟨d1, d2, kd1, kd2, S_D1, S_D2, V_D1, V_D2⟩⟩ := id hD
  have N0 := Fr.nil Z.heap.size
  refine OEnds.cast (ef_chAt m a) ?_
  refine OEnds.st (S' := T0.setTop (mkF m 1 #[vr a, vi (Int32.ofNat j)] [(.ref a)])) (fun _ k => ?_) ?_
  · refine XS.aloadN X0.here hx rfl (hb hby d_jdk_42_56_0) rfl rfl ?_
    exact k
  obtain ⟨_, T1, h1, L1, X1, e1, hQ1, st1⟩ := virtC X0 hx hZ (y := (⟨"java/lang/String", "isLatin1", "()Z"⟩ : MethodName)) (z := (⟨"java/lang/String", "isLatin1", "()Z"⟩ : MethodName)) hown (wq hw 202 rfl) (wq hw 203 rfl) (nf_sel (args := #[]) (mvT hZ (wq hw 75 rfl)) rfl) (wq hw 205 rfl) (wq hw 204 rfl) (by decide) (kc := 0) (ks := 0) (Con.sb (W := 0) (rm_isLatS l hD a O0 F_coder_a) hZ (wq hw 206 rfl) (wq hw 3 rfl) (by decide) (by decide)) e0 E_a (g := (mkF m 1 #[vr a, vi (Int32.ofNat j)] [(.ref a)])) rfl (by rw [hml]; rfl) (argsL := []) (rest := []) (lenOf pd_11 rfl) rfl (by show 2 * 0 + _ ≤ _; exact Nat.le_of_eq rfl) (hb hby d_jdk_42_56_1) (by decide) (by decide)
  obtain ⟨rfl, Nq1, Hq1⟩ := hQ1
  refine OEnds.st st1 ?_
  replace N0 := Fr.app N0 Nq1
  replace e1 := e1.trans Hq1
  refine OEnds.st (S' := T1.setTop (mkF m 8 #[vr a, vi (Int32.ofNat j)] [(.ref a)])) (fun _ k => ?_) ?_
  · refine XS.ifNo X1.here hx rfl (hb hby d_jdk_42_56_4) rfl ((if0 _ _).trans (feq (by decide)).1) ?_
    refine XS.aloadN X1.here hx rfl (hb hby d_jdk_42_56_7) rfl rfl ?_
    exact k
  obtain ⟨T2, X2, e2, st2⟩ := getF X1 hx hZ hown (host := "") (Or.inl (wq hw 20 rfl)) Via.refl e1 F_value_a (g := (mkF m 8 #[vr a, vi (Int32.ofNat j)] [(.ref a)])) rfl rfl (hb hby d_jdk_42_56_8)
  refine OEnds.st st2 ?_
  refine OEnds.st (S' := T2.setTop (mkF m 12 #[vr a, vi (Int32.ofNat j)] [(.int (Int32.ofNat j)), (.ref t)])) (fun _ k => ?_) ?_
  · refine XS.iloadN X2.here hx rfl (hb hby d_jdk_42_56_11) rfl ?_
    exact k
  obtain ⟨_, T3, h3, L3, X3, e3, hQ3, st3⟩ := callC X2 hx hZ hown (wq hw 207 rfl) (wq hw 208 rfl) (wq hw 209 rfl) (wq hw 210 rfl) (by decide) (kc := 0) (ks := 0) (Con.sb (W := 0) (rm_chAtL l hD t j k cs ch O0 V_t hl hjc hc) hZ (wq hw 210 rfl) (wq hw 209 rfl) (by decide) (by decide)) e2 (g := (mkF m 12 #[vr a, vi (Int32.ofNat j)] [(.int (Int32.ofNat j)), (.ref t)])) rfl (by rw [hml]; rfl) (argsL := [(.ref t), (.int (Int32.ofNat j))]) (rest := []) (lenOf pd_24 rfl) rfl (by show 2 * 0 + _ ≤ _; exact Nat.le_of_eq rfl) (hb hby d_jdk_42_56_12) (by decide) (by decide)
  obtain ⟨rfl, Nq3, Hq3⟩ := hQ3
  refine OEnds.st st3 ?_
  replace N0 := Fr.app N0 Nq3
  replace e3 := e3.trans Hq3
  exact OEnds.ret X3 hx hret hlk (nar255 hc) (Or.inl ⟨rfl, by simp, _, rfl⟩) (hb hby d_jdk_42_56_15) (by decide) (by decide) (by rw [e3]; exact ⟨rfl, N0, rfl⟩)
-- com/example/wire_to_worker/wiretoworker/broker/QueueNameToStringPinLaw.digits:(J)I
def Q_digits (Z : State)  (A : Nat) (h0 : Heap) (v : Option Value) (h : Heap) (L : List Loc) : Prop := ∃ d : Nat, Dig A d ∧ v = some (.int (Int32.ofNat d)) ∧ Fr Z.heap.size L ∧ h = h0
theorem ef_digits (m : MethodId)  : entryFrame m #[(.long (Int64.ofNat A))] 2 = mkF m 0 #[vj (Int64.ofNat A), .second] [] := by first | (simp [entryFrame, mkF, argsToLocals, Value.category, vi, vj, vr]; done) | rfl
theorem pn_10 : plainName "com/example/wire_to_worker/wiretoworker/broker/QueueNameToStringPinLaw" = true := by first | (simp [plainName, overriddenIn]; done) | decide +kernel
theorem d_3_0 : decode method_3_code 0 = .ok (.lload_n 0, 1) := by decide +kernel
theorem d_3_1 : decode method_3_code 1 = .ok (.ldc2_w 7, 3) := by decide +kernel
theorem d_3_4 : decode method_3_code 4 = .ok (.lcmp, 1) := by decide +kernel
theorem d_3_5 : decode method_3_code 5 = .ok (.ifCond .ge 5, 3) := by decide +kernel
theorem d_3_8 : decode method_3_code 8 = .ok (.iconst 1, 1) := by decide +kernel
theorem d_3_9 : decode method_3_code 9 = .ok (.ireturn, 1) := by decide +kernel
theorem d_3_10 : decode method_3_code 10 = .ok (.lload_n 0, 1) := by decide +kernel
theorem d_3_11 : decode method_3_code 11 = .ok (.ldc2_w 9, 3) := by decide +kernel
theorem d_3_14 : decode method_3_code 14 = .ok (.lcmp, 1) := by decide +kernel
theorem d_3_15 : decode method_3_code 15 = .ok (.ifCond .ge 5, 3) := by decide +kernel
theorem d_3_18 : decode method_3_code 18 = .ok (.iconst 2, 1) := by decide +kernel
theorem d_3_19 : decode method_3_code 19 = .ok (.ireturn, 1) := by decide +kernel
theorem d_3_20 : decode method_3_code 20 = .ok (.lload_n 0, 1) := by decide +kernel
theorem d_3_21 : decode method_3_code 21 = .ok (.ldc2_w 11, 3) := by decide +kernel
theorem d_3_24 : decode method_3_code 24 = .ok (.lcmp, 1) := by decide +kernel
theorem d_3_25 : decode method_3_code 25 = .ok (.ifCond .ge 5, 3) := by decide +kernel
theorem d_3_28 : decode method_3_code 28 = .ok (.iconst 3, 1) := by decide +kernel
theorem d_3_29 : decode method_3_code 29 = .ok (.ireturn, 1) := by decide +kernel
theorem d_3_30 : decode method_3_code 30 = .ok (.lload_n 0, 1) := by decide +kernel
theorem d_3_31 : decode method_3_code 31 = .ok (.ldc2_w 13, 3) := by decide +kernel
theorem d_3_34 : decode method_3_code 34 = .ok (.lcmp, 1) := by decide +kernel
theorem d_3_35 : decode method_3_code 35 = .ok (.ifCond .ge 5, 3) := by decide +kernel
theorem d_3_38 : decode method_3_code 38 = .ok (.iconst 4, 1) := by decide +kernel
theorem d_3_39 : decode method_3_code 39 = .ok (.ireturn, 1) := by decide +kernel
theorem d_3_40 : decode method_3_code 40 = .ok (.lload_n 0, 1) := by decide +kernel
theorem d_3_41 : decode method_3_code 41 = .ok (.ldc2_w 15, 3) := by decide +kernel
theorem d_3_44 : decode method_3_code 44 = .ok (.lcmp, 1) := by decide +kernel
theorem d_3_45 : decode method_3_code 45 = .ok (.ifCond .ge 5, 3) := by decide +kernel
theorem d_3_48 : decode method_3_code 48 = .ok (.iconst 5, 1) := by decide +kernel
theorem d_3_49 : decode method_3_code 49 = .ok (.ireturn, 1) := by decide +kernel
theorem d_3_50 : decode method_3_code 50 = .ok (.lload_n 0, 1) := by decide +kernel
theorem d_3_51 : decode method_3_code 51 = .ok (.ldc2_w 17, 3) := by decide +kernel
theorem d_3_54 : decode method_3_code 54 = .ok (.lcmp, 1) := by decide +kernel
theorem d_3_55 : decode method_3_code 55 = .ok (.ifCond .ge 6, 3) := by decide +kernel
theorem d_3_58 : decode method_3_code 58 = .ok (.bipush 6, 2) := by decide +kernel
theorem d_3_60 : decode method_3_code 60 = .ok (.ireturn, 1) := by decide +kernel
theorem d_3_61 : decode method_3_code 61 = .ok (.lload_n 0, 1) := by decide +kernel
theorem d_3_62 : decode method_3_code 62 = .ok (.ldc2_w 19, 3) := by decide +kernel
theorem d_3_65 : decode method_3_code 65 = .ok (.lcmp, 1) := by decide +kernel
theorem d_3_66 : decode method_3_code 66 = .ok (.ifCond .ge 6, 3) := by decide +kernel
theorem d_3_69 : decode method_3_code 69 = .ok (.bipush 7, 2) := by decide +kernel
theorem d_3_71 : decode method_3_code 71 = .ok (.ireturn, 1) := by decide +kernel
theorem d_3_72 : decode method_3_code 72 = .ok (.lload_n 0, 1) := by decide +kernel
theorem d_3_73 : decode method_3_code 73 = .ok (.ldc2_w 21, 3) := by decide +kernel
theorem d_3_76 : decode method_3_code 76 = .ok (.lcmp, 1) := by decide +kernel
theorem d_3_77 : decode method_3_code 77 = .ok (.ifCond .ge 6, 3) := by decide +kernel
theorem d_3_80 : decode method_3_code 80 = .ok (.bipush 8, 2) := by decide +kernel
theorem d_3_82 : decode method_3_code 82 = .ok (.ireturn, 1) := by decide +kernel
theorem d_3_83 : decode method_3_code 83 = .ok (.lload_n 0, 1) := by decide +kernel
theorem d_3_84 : decode method_3_code 84 = .ok (.ldc2_w 23, 3) := by decide +kernel
theorem d_3_87 : decode method_3_code 87 = .ok (.lcmp, 1) := by decide +kernel
theorem d_3_88 : decode method_3_code 88 = .ok (.ifCond .ge 6, 3) := by decide +kernel
theorem d_3_91 : decode method_3_code 91 = .ok (.bipush 9, 2) := by decide +kernel
theorem d_3_93 : decode method_3_code 93 = .ok (.ireturn, 1) := by decide +kernel
theorem d_3_94 : decode method_3_code 94 = .ok (.bipush 10, 2) := by decide +kernel
theorem d_3_96 : decode method_3_code 96 = .ok (.ireturn, 1) := by decide +kernel
set_option maxRecDepth 65536 in
set_option maxHeartbeats 40000000 in
theorem rm_digits (l : Launch) {Z : State} {a0 : Array Value} (hD : Wd Z a0)  (A : Nat) {h0 : Heap} (O0 : Ext Z.heap h0) (hA : A ≤ 2147483648) :
    Con l Z (⟨"com/example/wire_to_worker/wiretoworker/broker/QueueNameToStringPinLaw", "digits", "(J)I"⟩ : MethodName) method_3_code 2 (some .int) [] ({ frames := 0, cells := 0, slots := 0, locals := 0 } : Room) #[(.long (Int64.ofNat A))] h0 (Q_digits Z  A h0) := by
  refine Con.walk (plainFor_of_name pn_10) ?_
  intro p e s m below meth c T0 X0 hx hZ hby hml hown hnm hret hlk e0
  obtain ⟨hw, ⟨cz, S_CS, hcz⟩, ⟨sf, S_SF, hsf⟩, ⟨d1, d2, kd1, kd2, S_D1, S_D2, V_D1, V_D2⟩⟩ := id hD
  have N0 := Fr.nil Z.heap.size
  refine OEnds.cast (ef_digits m ) ?_
  refine OEnds.st (S' := T0.setTop (mkF m 5 #[vj (Int64.ofNat A), .second] [(.int (lcmpW (Int64.ofNat A) (10 : Int64)))])) (fun _ k => ?_) ?_
  · refine XS.lloadN X0.here hx rfl (hb hby d_3_0) rfl ?_
    refine X0.ldc2Long hx hown (mvT hZ (wq hw 195 rfl)) (g := (mkF m 1 #[vj (Int64.ofNat A), .second] [(.long (Int64.ofNat A))])) rfl (hb hby d_3_1) _ ?_
    refine XS.lcmp X0.here hx rfl (hb hby d_3_4) rfl ?_
    exact k
  rcases Classical.em ((lcmpW (Int64.ofNat A) (10 : Int64)) < (0 : Int32)) with g1 | g1
  · have k1 : A < 10 := (lt_long hA (by decide)).mp ((lw_lt _ _).mp g1)
    refine OEnds.st (S' := T0.setTop (mkF m 9 #[vj (Int64.ofNat A), .second] [(.int 1)])) (fun _ k => ?_) ?_
    · refine XS.ifNo X0.here hx rfl (hb hby d_3_5) rfl ((if0 _ _).trans (tlt g1).2.1) ?_
      refine XS.iconst X0.here hx rfl (hb hby d_3_8) ?_
      exact k
    exact OEnds.ret X0 hx hret hlk rfl (Or.inl ⟨rfl, by simp, _, rfl⟩) (hb hby d_3_9) (by decide) (by decide) (by rw [e0]; exact ⟨1, ⟨by decide, by decide, by omega, Or.inl rfl⟩, rfl, N0, rfl⟩)
  · have k1 : ¬ A < 10 := fun q => g1 ((lw_lt _ _).mpr ((lt_long (P := 10) hA (by decide)).mpr q))
    refine OEnds.st (S' := T0.setTop (mkF m 15 #[vj (Int64.ofNat A), .second] [(.int (lcmpW (Int64.ofNat A) (100 : Int64)))])) (fun _ k => ?_) ?_
    · refine XS.ifYes X0.here hx rfl (pc0 := 5) (pc' := 10) rfl (hb hby d_3_5) rfl ((if0 _ _).trans (flt g1).2.1) (by decide) (by decide) ?_
      refine XS.lloadN X0.here hx rfl (hb hby d_3_10) rfl ?_
      refine X0.ldc2Long hx hown (mvT hZ (wq hw 226 rfl)) (g := (mkF m 11 #[vj (Int64.ofNat A), .second] [(.long (Int64.ofNat A))])) rfl (hb hby d_3_11) _ ?_
      refine XS.lcmp X0.here hx rfl (hb hby d_3_14) rfl ?_
      exact k
    rcases Classical.em ((lcmpW (Int64.ofNat A) (100 : Int64)) < (0 : Int32)) with g2 | g2
    · have k2 : A < 100 := (lt_long hA (by decide)).mp ((lw_lt _ _).mp g2)
      refine OEnds.st (S' := T0.setTop (mkF m 19 #[vj (Int64.ofNat A), .second] [(.int 2)])) (fun _ k => ?_) ?_
      · refine XS.ifNo X0.here hx rfl (hb hby d_3_15) rfl ((if0 _ _).trans (tlt g2).2.1) ?_
        refine XS.iconst X0.here hx rfl (hb hby d_3_18) ?_
        exact k
      exact OEnds.ret X0 hx hret hlk rfl (Or.inl ⟨rfl, by simp, _, rfl⟩) (hb hby d_3_19) (by decide) (by decide) (by rw [e0]; exact ⟨2, ⟨by decide, by decide, by omega, Or.inr (by omega)⟩, rfl, N0, rfl⟩)
    · have k2 : ¬ A < 100 := fun q => g2 ((lw_lt _ _).mpr ((lt_long (P := 100) hA (by decide)).mpr q))
      refine OEnds.st (S' := T0.setTop (mkF m 25 #[vj (Int64.ofNat A), .second] [(.int (lcmpW (Int64.ofNat A) (1000 : Int64)))])) (fun _ k => ?_) ?_
      · refine XS.ifYes X0.here hx rfl (pc0 := 15) (pc' := 20) rfl (hb hby d_3_15) rfl ((if0 _ _).trans (flt g2).2.1) (by decide) (by decide) ?_
        refine XS.lloadN X0.here hx rfl (hb hby d_3_20) rfl ?_
        refine X0.ldc2Long hx hown (mvT hZ (wq hw 227 rfl)) (g := (mkF m 21 #[vj (Int64.ofNat A), .second] [(.long (Int64.ofNat A))])) rfl (hb hby d_3_21) _ ?_
        refine XS.lcmp X0.here hx rfl (hb hby d_3_24) rfl ?_
        exact k
      rcases Classical.em ((lcmpW (Int64.ofNat A) (1000 : Int64)) < (0 : Int32)) with g3 | g3
      · have k3 : A < 1000 := (lt_long hA (by decide)).mp ((lw_lt _ _).mp g3)
        refine OEnds.st (S' := T0.setTop (mkF m 29 #[vj (Int64.ofNat A), .second] [(.int 3)])) (fun _ k => ?_) ?_
        · refine XS.ifNo X0.here hx rfl (hb hby d_3_25) rfl ((if0 _ _).trans (tlt g3).2.1) ?_
          refine XS.iconst X0.here hx rfl (hb hby d_3_28) ?_
          exact k
        exact OEnds.ret X0 hx hret hlk rfl (Or.inl ⟨rfl, by simp, _, rfl⟩) (hb hby d_3_29) (by decide) (by decide) (by rw [e0]; exact ⟨3, ⟨by decide, by decide, by omega, Or.inr (by omega)⟩, rfl, N0, rfl⟩)
      · have k3 : ¬ A < 1000 := fun q => g3 ((lw_lt _ _).mpr ((lt_long (P := 1000) hA (by decide)).mpr q))
        refine OEnds.st (S' := T0.setTop (mkF m 35 #[vj (Int64.ofNat A), .second] [(.int (lcmpW (Int64.ofNat A) (10000 : Int64)))])) (fun _ k => ?_) ?_
        · refine XS.ifYes X0.here hx rfl (pc0 := 25) (pc' := 30) rfl (hb hby d_3_25) rfl ((if0 _ _).trans (flt g3).2.1) (by decide) (by decide) ?_
          refine XS.lloadN X0.here hx rfl (hb hby d_3_30) rfl ?_
          refine X0.ldc2Long hx hown (mvT hZ (wq hw 228 rfl)) (g := (mkF m 31 #[vj (Int64.ofNat A), .second] [(.long (Int64.ofNat A))])) rfl (hb hby d_3_31) _ ?_
          refine XS.lcmp X0.here hx rfl (hb hby d_3_34) rfl ?_
          exact k
        rcases Classical.em ((lcmpW (Int64.ofNat A) (10000 : Int64)) < (0 : Int32)) with g4 | g4
        · have k4 : A < 10000 := (lt_long hA (by decide)).mp ((lw_lt _ _).mp g4)
          refine OEnds.st (S' := T0.setTop (mkF m 39 #[vj (Int64.ofNat A), .second] [(.int 4)])) (fun _ k => ?_) ?_
          · refine XS.ifNo X0.here hx rfl (hb hby d_3_35) rfl ((if0 _ _).trans (tlt g4).2.1) ?_
            refine XS.iconst X0.here hx rfl (hb hby d_3_38) ?_
            exact k
          exact OEnds.ret X0 hx hret hlk rfl (Or.inl ⟨rfl, by simp, _, rfl⟩) (hb hby d_3_39) (by decide) (by decide) (by rw [e0]; exact ⟨4, ⟨by decide, by decide, by omega, Or.inr (by omega)⟩, rfl, N0, rfl⟩)
        · have k4 : ¬ A < 10000 := fun q => g4 ((lw_lt _ _).mpr ((lt_long (P := 10000) hA (by decide)).mpr q))
          refine OEnds.st (S' := T0.setTop (mkF m 45 #[vj (Int64.ofNat A), .second] [(.int (lcmpW (Int64.ofNat A) (100000 : Int64)))])) (fun _ k => ?_) ?_
          · refine XS.ifYes X0.here hx rfl (pc0 := 35) (pc' := 40) rfl (hb hby d_3_35) rfl ((if0 _ _).trans (flt g4).2.1) (by decide) (by decide) ?_
            refine XS.lloadN X0.here hx rfl (hb hby d_3_40) rfl ?_
            refine X0.ldc2Long hx hown (mvT hZ (wq hw 229 rfl)) (g := (mkF m 41 #[vj (Int64.ofNat A), .second] [(.long (Int64.ofNat A))])) rfl (hb hby d_3_41) _ ?_
            refine XS.lcmp X0.here hx rfl (hb hby d_3_44) rfl ?_
            exact k
          rcases Classical.em ((lcmpW (Int64.ofNat A) (100000 : Int64)) < (0 : Int32)) with g5 | g5
          · have k5 : A < 100000 := (lt_long hA (by decide)).mp ((lw_lt _ _).mp g5)
            refine OEnds.st (S' := T0.setTop (mkF m 49 #[vj (Int64.ofNat A), .second] [(.int 5)])) (fun _ k => ?_) ?_
            · refine XS.ifNo X0.here hx rfl (hb hby d_3_45) rfl ((if0 _ _).trans (tlt g5).2.1) ?_
              refine XS.iconst X0.here hx rfl (hb hby d_3_48) ?_
              exact k
            exact OEnds.ret X0 hx hret hlk rfl (Or.inl ⟨rfl, by simp, _, rfl⟩) (hb hby d_3_49) (by decide) (by decide) (by rw [e0]; exact ⟨5, ⟨by decide, by decide, by omega, Or.inr (by omega)⟩, rfl, N0, rfl⟩)
          · have k5 : ¬ A < 100000 := fun q => g5 ((lw_lt _ _).mpr ((lt_long (P := 100000) hA (by decide)).mpr q))
            refine OEnds.st (S' := T0.setTop (mkF m 55 #[vj (Int64.ofNat A), .second] [(.int (lcmpW (Int64.ofNat A) (1000000 : Int64)))])) (fun _ k => ?_) ?_
            · refine XS.ifYes X0.here hx rfl (pc0 := 45) (pc' := 50) rfl (hb hby d_3_45) rfl ((if0 _ _).trans (flt g5).2.1) (by decide) (by decide) ?_
              refine XS.lloadN X0.here hx rfl (hb hby d_3_50) rfl ?_
              refine X0.ldc2Long hx hown (mvT hZ (wq hw 230 rfl)) (g := (mkF m 51 #[vj (Int64.ofNat A), .second] [(.long (Int64.ofNat A))])) rfl (hb hby d_3_51) _ ?_
              refine XS.lcmp X0.here hx rfl (hb hby d_3_54) rfl ?_
              exact k
            rcases Classical.em ((lcmpW (Int64.ofNat A) (1000000 : Int64)) < (0 : Int32)) with g6 | g6
            · have k6 : A < 1000000 := (lt_long hA (by decide)).mp ((lw_lt _ _).mp g6)
              refine OEnds.st (S' := T0.setTop (mkF m 60 #[vj (Int64.ofNat A), .second] [(.int 6)])) (fun _ k => ?_) ?_
              · refine XS.ifNo X0.here hx rfl (hb hby d_3_55) rfl ((if0 _ _).trans (tlt g6).2.1) ?_
                refine XS.bipush X0.here hx rfl (hb hby d_3_58) ?_
                exact k
              exact OEnds.ret X0 hx hret hlk rfl (Or.inl ⟨rfl, by simp, _, rfl⟩) (hb hby d_3_60) (by decide) (by decide) (by rw [e0]; exact ⟨6, ⟨by decide, by decide, by omega, Or.inr (by omega)⟩, rfl, N0, rfl⟩)
            · have k6 : ¬ A < 1000000 := fun q => g6 ((lw_lt _ _).mpr ((lt_long (P := 1000000) hA (by decide)).mpr q))
              refine OEnds.st (S' := T0.setTop (mkF m 66 #[vj (Int64.ofNat A), .second] [(.int (lcmpW (Int64.ofNat A) (10000000 : Int64)))])) (fun _ k => ?_) ?_
              · refine XS.ifYes X0.here hx rfl (pc0 := 55) (pc' := 61) rfl (hb hby d_3_55) rfl ((if0 _ _).trans (flt g6).2.1) (by decide) (by decide) ?_
                refine XS.lloadN X0.here hx rfl (hb hby d_3_61) rfl ?_
                refine X0.ldc2Long hx hown (mvT hZ (wq hw 231 rfl)) (g := (mkF m 62 #[vj (Int64.ofNat A), .second] [(.long (Int64.ofNat A))])) rfl (hb hby d_3_62) _ ?_
                refine XS.lcmp X0.here hx rfl (hb hby d_3_65) rfl ?_
                exact k
              rcases Classical.em ((lcmpW (Int64.ofNat A) (10000000 : Int64)) < (0 : Int32)) with g7 | g7
              · have k7 : A < 10000000 := (lt_long hA (by decide)).mp ((lw_lt _ _).mp g7)
                refine OEnds.st (S' := T0.setTop (mkF m 71 #[vj (Int64.ofNat A), .second] [(.int 7)])) (fun _ k => ?_) ?_
                · refine XS.ifNo X0.here hx rfl (hb hby d_3_66) rfl ((if0 _ _).trans (tlt g7).2.1) ?_
                  refine XS.bipush X0.here hx rfl (hb hby d_3_69) ?_
                  exact k
                exact OEnds.ret X0 hx hret hlk rfl (Or.inl ⟨rfl, by simp, _, rfl⟩) (hb hby d_3_71) (by decide) (by decide) (by rw [e0]; exact ⟨7, ⟨by decide, by decide, by omega, Or.inr (by omega)⟩, rfl, N0, rfl⟩)
              · have k7 : ¬ A < 10000000 := fun q => g7 ((lw_lt _ _).mpr ((lt_long (P := 10000000) hA (by decide)).mpr q))
                refine OEnds.st (S' := T0.setTop (mkF m 77 #[vj (Int64.ofNat A), .second] [(.int (lcmpW (Int64.ofNat A) (100000000 : Int64)))])) (fun _ k => ?_) ?_
                · refine XS.ifYes X0.here hx rfl (pc0 := 66) (pc' := 72) rfl (hb hby d_3_66) rfl ((if0 _ _).trans (flt g7).2.1) (by decide) (by decide) ?_
                  refine XS.lloadN X0.here hx rfl (hb hby d_3_72) rfl ?_
                  refine X0.ldc2Long hx hown (mvT hZ (wq hw 232 rfl)) (g := (mkF m 73 #[vj (Int64.ofNat A), .second] [(.long (Int64.ofNat A))])) rfl (hb hby d_3_73) _ ?_
                  refine XS.lcmp X0.here hx rfl (hb hby d_3_76) rfl ?_
                  exact k
                rcases Classical.em ((lcmpW (Int64.ofNat A) (100000000 : Int64)) < (0 : Int32)) with g8 | g8
                · have k8 : A < 100000000 := (lt_long hA (by decide)).mp ((lw_lt _ _).mp g8)
                  refine OEnds.st (S' := T0.setTop (mkF m 82 #[vj (Int64.ofNat A), .second] [(.int 8)])) (fun _ k => ?_) ?_
                  · refine XS.ifNo X0.here hx rfl (hb hby d_3_77) rfl ((if0 _ _).trans (tlt g8).2.1) ?_
                    refine XS.bipush X0.here hx rfl (hb hby d_3_80) ?_
                    exact k
                  exact OEnds.ret X0 hx hret hlk rfl (Or.inl ⟨rfl, by simp, _, rfl⟩) (hb hby d_3_82) (by decide) (by decide) (by rw [e0]; exact ⟨8, ⟨by decide, by decide, by omega, Or.inr (by omega)⟩, rfl, N0, rfl⟩)
                · have k8 : ¬ A < 100000000 := fun q => g8 ((lw_lt _ _).mpr ((lt_long (P := 100000000) hA (by decide)).mpr q))
                  refine OEnds.st (S' := T0.setTop (mkF m 88 #[vj (Int64.ofNat A), .second] [(.int (lcmpW (Int64.ofNat A) (1000000000 : Int64)))])) (fun _ k => ?_) ?_
                  · refine XS.ifYes X0.here hx rfl (pc0 := 77) (pc' := 83) rfl (hb hby d_3_77) rfl ((if0 _ _).trans (flt g8).2.1) (by decide) (by decide) ?_
                    refine XS.lloadN X0.here hx rfl (hb hby d_3_83) rfl ?_
                    refine X0.ldc2Long hx hown (mvT hZ (wq hw 233 rfl)) (g := (mkF m 84 #[vj (Int64.ofNat A), .second] [(.long (Int64.ofNat A))])) rfl (hb hby d_3_84) _ ?_
                    refine XS.lcmp X0.here hx rfl (hb hby d_3_87) rfl ?_
                    exact k
                  rcases Classical.em ((lcmpW (Int64.ofNat A) (1000000000 : Int64)) < (0 : Int32)) with g9 | g9
                  · have k9 : A < 1000000000 := (lt_long hA (by decide)).mp ((lw_lt _ _).mp g9)
                    refine OEnds.st (S' := T0.setTop (mkF m 93 #[vj (Int64.ofNat A), .second] [(.int 9)])) (fun _ k => ?_) ?_
                    · refine XS.ifNo X0.here hx rfl (hb hby d_3_88) rfl ((if0 _ _).trans (tlt g9).2.1) ?_
                      refine XS.bipush X0.here hx rfl (hb hby d_3_91) ?_
                      exact k
                    exact OEnds.ret X0 hx hret hlk rfl (Or.inl ⟨rfl, by simp, _, rfl⟩) (hb hby d_3_93) (by decide) (by decide) (by rw [e0]; exact ⟨9, ⟨by decide, by decide, by omega, Or.inr (by omega)⟩, rfl, N0, rfl⟩)
                  · have k9 : ¬ A < 1000000000 := fun q => g9 ((lw_lt _ _).mpr ((lt_long (P := 1000000000) hA (by decide)).mpr q))
                    refine OEnds.st (S' := T0.setTop (mkF m 96 #[vj (Int64.ofNat A), .second] [(.int 10)])) (fun _ k => ?_) ?_
                    · refine XS.ifYes X0.here hx rfl (pc0 := 88) (pc' := 94) rfl (hb hby d_3_88) rfl ((if0 _ _).trans (flt g9).2.1) (by decide) (by decide) ?_
                      refine XS.bipush X0.here hx rfl (hb hby d_3_94) ?_
                      exact k
                    exact OEnds.ret X0 hx hret hlk rfl (Or.inl ⟨rfl, by simp, _, rfl⟩) (hb hby d_3_96) (by decide) (by decide) (by rw [e0]; exact ⟨10, ⟨by decide, by decide, by omega, Or.inr (by omega)⟩, rfl, N0, rfl⟩)
-- com/example/wire_to_worker/wiretoworker/broker/QueueNameToStringPinLaw.pow10:(I)J
def Q_pow10 (Z : State)  (pw : Nat) (h0 : Heap) (v : Option Value) (h : Heap) (L : List Loc) : Prop := v = some (.long (Int64.ofNat (10 ^ pw))) ∧ Fr Z.heap.size L ∧ Keep h0 h []
theorem ef_pow10 (m : MethodId)  : entryFrame m #[(.int (Int32.ofNat pw))] 2 = mkF m 0 #[vi (Int32.ofNat pw), .unset] [] := by first | (simp [entryFrame, mkF, argsToLocals, Value.category, vi, vj, vr]; done) | rfl
theorem d_2_0 : decode method_2_code 0 = .ok (.bipush 10, 2) := by decide +kernel
theorem d_2_2 : decode method_2_code 2 = .ok (.newarray .long, 2) := by decide +kernel
theorem d_2_4 : decode method_2_code 4 = .ok (.dup, 1) := by decide +kernel
theorem d_2_5 : decode method_2_code 5 = .ok (.iconst 0, 1) := by decide +kernel
theorem d_2_6 : decode method_2_code 6 = .ok (.lconst 1, 1) := by decide +kernel
theorem d_2_7 : decode method_2_code 7 = .ok (.lastore, 1) := by decide +kernel
theorem d_2_8 : decode method_2_code 8 = .ok (.dup, 1) := by decide +kernel
theorem d_2_9 : decode method_2_code 9 = .ok (.iconst 1, 1) := by decide +kernel
theorem d_2_10 : decode method_2_code 10 = .ok (.ldc2_w 7, 3) := by decide +kernel
theorem d_2_13 : decode method_2_code 13 = .ok (.lastore, 1) := by decide +kernel
theorem d_2_14 : decode method_2_code 14 = .ok (.dup, 1) := by decide +kernel
theorem d_2_15 : decode method_2_code 15 = .ok (.iconst 2, 1) := by decide +kernel
theorem d_2_16 : decode method_2_code 16 = .ok (.ldc2_w 9, 3) := by decide +kernel
theorem d_2_19 : decode method_2_code 19 = .ok (.lastore, 1) := by decide +kernel
theorem d_2_20 : decode method_2_code 20 = .ok (.dup, 1) := by decide +kernel
theorem d_2_21 : decode method_2_code 21 = .ok (.iconst 3, 1) := by decide +kernel
theorem d_2_22 : decode method_2_code 22 = .ok (.ldc2_w 11, 3) := by decide +kernel
theorem d_2_25 : decode method_2_code 25 = .ok (.lastore, 1) := by decide +kernel
theorem d_2_26 : decode method_2_code 26 = .ok (.dup, 1) := by decide +kernel
theorem d_2_27 : decode method_2_code 27 = .ok (.iconst 4, 1) := by decide +kernel
theorem d_2_28 : decode method_2_code 28 = .ok (.ldc2_w 13, 3) := by decide +kernel
theorem d_2_31 : decode method_2_code 31 = .ok (.lastore, 1) := by decide +kernel
theorem d_2_32 : decode method_2_code 32 = .ok (.dup, 1) := by decide +kernel
theorem d_2_33 : decode method_2_code 33 = .ok (.iconst 5, 1) := by decide +kernel
theorem d_2_34 : decode method_2_code 34 = .ok (.ldc2_w 15, 3) := by decide +kernel
theorem d_2_37 : decode method_2_code 37 = .ok (.lastore, 1) := by decide +kernel
theorem d_2_38 : decode method_2_code 38 = .ok (.dup, 1) := by decide +kernel
theorem d_2_39 : decode method_2_code 39 = .ok (.bipush 6, 2) := by decide +kernel
theorem d_2_41 : decode method_2_code 41 = .ok (.ldc2_w 17, 3) := by decide +kernel
theorem d_2_44 : decode method_2_code 44 = .ok (.lastore, 1) := by decide +kernel
theorem d_2_45 : decode method_2_code 45 = .ok (.dup, 1) := by decide +kernel
theorem d_2_46 : decode method_2_code 46 = .ok (.bipush 7, 2) := by decide +kernel
theorem d_2_48 : decode method_2_code 48 = .ok (.ldc2_w 19, 3) := by decide +kernel
theorem d_2_51 : decode method_2_code 51 = .ok (.lastore, 1) := by decide +kernel
theorem d_2_52 : decode method_2_code 52 = .ok (.dup, 1) := by decide +kernel
theorem d_2_53 : decode method_2_code 53 = .ok (.bipush 8, 2) := by decide +kernel
theorem d_2_55 : decode method_2_code 55 = .ok (.ldc2_w 21, 3) := by decide +kernel
theorem d_2_58 : decode method_2_code 58 = .ok (.lastore, 1) := by decide +kernel
theorem d_2_59 : decode method_2_code 59 = .ok (.dup, 1) := by decide +kernel
theorem d_2_60 : decode method_2_code 60 = .ok (.bipush 9, 2) := by decide +kernel
theorem d_2_62 : decode method_2_code 62 = .ok (.ldc2_w 23, 3) := by decide +kernel
theorem d_2_65 : decode method_2_code 65 = .ok (.lastore, 1) := by decide +kernel
theorem d_2_66 : decode method_2_code 66 = .ok (.astore_n 1, 1) := by decide +kernel
theorem d_2_67 : decode method_2_code 67 = .ok (.aload_n 1, 1) := by decide +kernel
theorem d_2_68 : decode method_2_code 68 = .ok (.iload_n 0, 1) := by decide +kernel
theorem d_2_69 : decode method_2_code 69 = .ok (.laload, 1) := by decide +kernel
theorem d_2_70 : decode method_2_code 70 = .ok (.lreturn, 1) := by decide +kernel
set_option maxRecDepth 65536 in
set_option maxHeartbeats 40000000 in
theorem rm_pow10 (l : Launch) {Z : State} {a0 : Array Value} (hD : Wd Z a0)  (pw : Nat) {h0 : Heap} (O0 : Ext Z.heap h0) (hk : pw ≤ 9) :
    Con l Z (⟨"com/example/wire_to_worker/wiretoworker/broker/QueueNameToStringPinLaw", "pow10", "(I)J"⟩ : MethodName) method_2_code 2 (some .long) [] ({ frames := 0, cells := 1, slots := 10, locals := 0 } : Room) #[(.int (Int32.ofNat pw))] h0 (Q_pow10 Z  pw h0) := by
  refine Con.walk (plainFor_of_name pn_10) ?_
  intro p e s m below meth c T0 X0 hx hZ hby hml hown hnm hret hlk e0
  obtain ⟨hw, ⟨cz, S_CS, hcz⟩, ⟨sf, S_SF, hsf⟩, ⟨d1, d2, kd1, kd2, S_D1, S_D2, V_D1, V_D2⟩⟩ := id hD
  have N0 := Fr.nil Z.heap.size
  have K0 : Keep h0 h0 [] := Keep.refl _ _
  refine OEnds.cast (ef_pow10 m ) ?_
  refine OEnds.st (S' := T0.setTop (mkF m 2 #[vi (Int32.ofNat pw), .unset] [(.int 10)])) (fun _ k => ?_) ?_
  · refine XS.bipush X0.here hx rfl (hb hby d_2_0) ?_
    exact k
  obtain ⟨T1, h1, k1, X1, e1, E1, A1, st1⟩ := newP X0 hx hZ (wq hw 225 rfl) e0 (g := (mkF m 2 #[vi (Int32.ofNat pw), .unset] [(.int 10)])) rfl (hb hby d_2_2) rfl (by decide) (cap := 10) (by decide) (by decide) (by decide) (by decide)
  obtain ⟨b1, g1⟩ : ∃ z, z = h0.size := ⟨_, rfl⟩
  rw [← g1] at A1 st1
  refine OEnds.st st1 ?_
  have ge_b1 : Z.heap.size ≤ b1 := Nat.le_trans O0.1 (Nat.le_of_eq g1.symm)
  have sz_b1 : h0.size ≤ b1 := Nat.le_trans K0.1 (Nat.le_of_eq g1.symm)
  replace O0 : Ext Z.heap h1 := ext_trans O0 E1
  replace K0 : Keep h0 h1 [] := K0.ext E1
  have V_b1 : Arv Z h1 b1 k1 .long (10 : Int32) [(.long (0 : Int64)), (.long (0 : Int64)), (.long (0 : Int64)), (.long (0 : Int64)), (.long (0 : Int64)), (.long (0 : Int64)), (.long (0 : Int64)), (.long (0 : Int64)), (.long (0 : Int64)), (.long (0 : Int64))] (.long (0 : Int64)) := (Arv.new A1 (by decide)).pad (pad_rep [] (.long (0 : Int64)) 10)
  refine OEnds.st (S' := T1.setTop (mkF m 7 #[vi (Int32.ofNat pw), .unset] [(.long 1), (.int 0), (.ref b1), (.ref b1)])) (fun _ k => ?_) ?_
  · refine XS.dup X1.here hx rfl (hb hby d_2_4) rfl rfl ?_
    refine XS.iconst X1.here hx rfl (hb hby d_2_5) ?_
    refine XS.lconst X1.here hx rfl (hb hby d_2_6) ?_
    exact k
  obtain ⟨cl_b1_2, Ar_b1_2, q_b1_2, S_b1_2, N_b1_2, H_b1_2, G_b1_2⟩ := V_b1
  obtain ⟨T2, h2, X2, e2, W2, st2⟩ := stJ X1 hx hZ e1 Ar_b1_2 (j := (0 : Int32)) (inb_of S_b1_2 ⟨by decide, by decide⟩) (g := (mkF m 7 #[vi (Int32.ofNat pw), .unset] [(.long 1), (.int 0), (.ref b1), (.ref b1)])) rfl rfl (hb hby d_2_7)
  have V_b1_2 : Arv Z h2 b1 k1 .long (10 : Int32) [(.long (1 : Int64)), (.long (0 : Int64)), (.long (0 : Int64)), (.long (0 : Int64)), (.long (0 : Int64)), (.long (0 : Int64)), (.long (0 : Int64)), (.long (0 : Int64)), (.long (0 : Int64)), (.long (0 : Int64))] (.long (0 : Int64)) := Arv.set Ar_b1_2 q_b1_2 S_b1_2 N_b1_2 H_b1_2 G_b1_2 rfl W2 0 rfl (Nat.le_of_ble_eq_true rfl)
  refine OEnds.st st2 ?_
  replace O0 : Ext Z.heap h2 := ext_wr O0 W2 ge_b1
  replace N0 := Fr.snoc X2 N0 ge_b1
  replace K0 : Keep h0 h2 [] := K0.wr W2 (Or.inr sz_b1)
  refine OEnds.st (S' := T2.setTop (mkF m 13 #[vi (Int32.ofNat pw), .unset] [(.long 10), (.int 1), (.ref b1), (.ref b1)])) (fun _ k => ?_) ?_
  · refine XS.dup X2.here hx rfl (hb hby d_2_8) rfl rfl ?_
    refine XS.iconst X2.here hx rfl (hb hby d_2_9) ?_
    refine X2.ldc2Long hx hown (mvT hZ (wq hw 195 rfl)) (g := (mkF m 10 #[vi (Int32.ofNat pw), .unset] [(.int 1), (.ref b1), (.ref b1)])) rfl (hb hby d_2_10) _ ?_
    exact k
  obtain ⟨cl_b1_3, Ar_b1_3, q_b1_3, S_b1_3, N_b1_3, H_b1_3, G_b1_3⟩ := V_b1_2
  obtain ⟨T3, h3, X3, e3, W3, st3⟩ := stJ X2 hx hZ e2 Ar_b1_3 (j := (1 : Int32)) (inb_of S_b1_3 ⟨by decide, by decide⟩) (g := (mkF m 13 #[vi (Int32.ofNat pw), .unset] [(.long 10), (.int 1), (.ref b1), (.ref b1)])) rfl rfl (hb hby d_2_13)
  have V_b1_3 : Arv Z h3 b1 k1 .long (10 : Int32) [(.long (1 : Int64)), (.long (10 : Int64)), (.long (0 : Int64)), (.long (0 : Int64)), (.long (0 : Int64)), (.long (0 : Int64)), (.long (0 : Int64)), (.long (0 : Int64)), (.long (0 : Int64)), (.long (0 : Int64))] (.long (0 : Int64)) := Arv.set Ar_b1_3 q_b1_3 S_b1_3 N_b1_3 H_b1_3 G_b1_3 rfl W3 1 rfl (Nat.le_of_ble_eq_true rfl)
  refine OEnds.st st3 ?_
  replace O0 : Ext Z.heap h3 := ext_wr O0 W3 ge_b1
  replace N0 := Fr.snoc X3 N0 ge_b1
  replace K0 : Keep h0 h3 [] := K0.wr W3 (Or.inr sz_b1)
  refine OEnds.st (S' := T3.setTop (mkF m 19 #[vi (Int32.ofNat pw), .unset] [(.long 100), (.int 2), (.ref b1), (.ref b1)])) (fun _ k => ?_) ?_
  · refine XS.dup X3.here hx rfl (hb hby d_2_14) rfl rfl ?_
    refine XS.iconst X3.here hx rfl (hb hby d_2_15) ?_
    refine X3.ldc2Long hx hown (mvT hZ (wq hw 226 rfl)) (g := (mkF m 16 #[vi (Int32.ofNat pw), .unset] [(.int 2), (.ref b1), (.ref b1)])) rfl (hb hby d_2_16) _ ?_
    exact k
  obtain ⟨cl_b1_4, Ar_b1_4, q_b1_4, S_b1_4, N_b1_4, H_b1_4, G_b1_4⟩ := V_b1_3
  obtain ⟨T4, h4, X4, e4, W4, st4⟩ := stJ X3 hx hZ e3 Ar_b1_4 (j := (2 : Int32)) (inb_of S_b1_4 ⟨by decide, by decide⟩) (g := (mkF m 19 #[vi (Int32.ofNat pw), .unset] [(.long 100), (.int 2), (.ref b1), (.ref b1)])) rfl rfl (hb hby d_2_19)
  have V_b1_4 : Arv Z h4 b1 k1 .long (10 : Int32) [(.long (1 : Int64)), (.long (10 : Int64)), (.long (100 : Int64)), (.long (0 : Int64)), (.long (0 : Int64)), (.long (0 : Int64)), (.long (0 : Int64)), (.long (0 : Int64)), (.long (0 : Int64)), (.long (0 : Int64))] (.long (0 : Int64)) := Arv.set Ar_b1_4 q_b1_4 S_b1_4 N_b1_4 H_b1_4 G_b1_4 rfl W4 2 rfl (Nat.le_of_ble_eq_true rfl)
  refine OEnds.st st4 ?_
  replace O0 : Ext Z.heap h4 := ext_wr O0 W4 ge_b1
  replace N0 := Fr.snoc X4 N0 ge_b1
  replace K0 : Keep h0 h4 [] := K0.wr W4 (Or.inr sz_b1)
  refine OEnds.st (S' := T4.setTop (mkF m 25 #[vi (Int32.ofNat pw), .unset] [(.long 1000), (.int 3), (.ref b1), (.ref b1)])) (fun _ k => ?_) ?_
  · refine XS.dup X4.here hx rfl (hb hby d_2_20) rfl rfl ?_
    refine XS.iconst X4.here hx rfl (hb hby d_2_21) ?_
    refine X4.ldc2Long hx hown (mvT hZ (wq hw 227 rfl)) (g := (mkF m 22 #[vi (Int32.ofNat pw), .unset] [(.int 3), (.ref b1), (.ref b1)])) rfl (hb hby d_2_22) _ ?_
    exact k
  obtain ⟨cl_b1_5, Ar_b1_5, q_b1_5, S_b1_5, N_b1_5, H_b1_5, G_b1_5⟩ := V_b1_4
  obtain ⟨T5, h5, X5, e5, W5, st5⟩ := stJ X4 hx hZ e4 Ar_b1_5 (j := (3 : Int32)) (inb_of S_b1_5 ⟨by decide, by decide⟩) (g := (mkF m 25 #[vi (Int32.ofNat pw), .unset] [(.long 1000), (.int 3), (.ref b1), (.ref b1)])) rfl rfl (hb hby d_2_25)
  have V_b1_5 : Arv Z h5 b1 k1 .long (10 : Int32) [(.long (1 : Int64)), (.long (10 : Int64)), (.long (100 : Int64)), (.long (1000 : Int64)), (.long (0 : Int64)), (.long (0 : Int64)), (.long (0 : Int64)), (.long (0 : Int64)), (.long (0 : Int64)), (.long (0 : Int64))] (.long (0 : Int64)) := Arv.set Ar_b1_5 q_b1_5 S_b1_5 N_b1_5 H_b1_5 G_b1_5 rfl W5 3 rfl (Nat.le_of_ble_eq_true rfl)
  refine OEnds.st st5 ?_
  replace O0 : Ext Z.heap h5 := ext_wr O0 W5 ge_b1
  replace N0 := Fr.snoc X5 N0 ge_b1
  replace K0 : Keep h0 h5 [] := K0.wr W5 (Or.inr sz_b1)
  refine OEnds.st (S' := T5.setTop (mkF m 31 #[vi (Int32.ofNat pw), .unset] [(.long 10000), (.int 4), (.ref b1), (.ref b1)])) (fun _ k => ?_) ?_
  · refine XS.dup X5.here hx rfl (hb hby d_2_26) rfl rfl ?_
    refine XS.iconst X5.here hx rfl (hb hby d_2_27) ?_
    refine X5.ldc2Long hx hown (mvT hZ (wq hw 228 rfl)) (g := (mkF m 28 #[vi (Int32.ofNat pw), .unset] [(.int 4), (.ref b1), (.ref b1)])) rfl (hb hby d_2_28) _ ?_
    exact k
  obtain ⟨cl_b1_6, Ar_b1_6, q_b1_6, S_b1_6, N_b1_6, H_b1_6, G_b1_6⟩ := V_b1_5
  obtain ⟨T6, h6, X6, e6, W6, st6⟩ := stJ X5 hx hZ e5 Ar_b1_6 (j := (4 : Int32)) (inb_of S_b1_6 ⟨by decide, by decide⟩) (g := (mkF m 31 #[vi (Int32.ofNat pw), .unset] [(.long 10000), (.int 4), (.ref b1), (.ref b1)])) rfl rfl (hb hby d_2_31)
  have V_b1_6 : Arv Z h6 b1 k1 .long (10 : Int32) [(.long (1 : Int64)), (.long (10 : Int64)), (.long (100 : Int64)), (.long (1000 : Int64)), (.long (10000 : Int64)), (.long (0 : Int64)), (.long (0 : Int64)), (.long (0 : Int64)), (.long (0 : Int64)), (.long (0 : Int64))] (.long (0 : Int64)) := Arv.set Ar_b1_6 q_b1_6 S_b1_6 N_b1_6 H_b1_6 G_b1_6 rfl W6 4 rfl (Nat.le_of_ble_eq_true rfl)
  refine OEnds.st st6 ?_
  replace O0 : Ext Z.heap h6 := ext_wr O0 W6 ge_b1
  replace N0 := Fr.snoc X6 N0 ge_b1
  replace K0 : Keep h0 h6 [] := K0.wr W6 (Or.inr sz_b1)
  refine OEnds.st (S' := T6.setTop (mkF m 37 #[vi (Int32.ofNat pw), .unset] [(.long 100000), (.int 5), (.ref b1), (.ref b1)])) (fun _ k => ?_) ?_
  · refine XS.dup X6.here hx rfl (hb hby d_2_32) rfl rfl ?_
    refine XS.iconst X6.here hx rfl (hb hby d_2_33) ?_
    refine X6.ldc2Long hx hown (mvT hZ (wq hw 229 rfl)) (g := (mkF m 34 #[vi (Int32.ofNat pw), .unset] [(.int 5), (.ref b1), (.ref b1)])) rfl (hb hby d_2_34) _ ?_
    exact k
  obtain ⟨cl_b1_7, Ar_b1_7, q_b1_7, S_b1_7, N_b1_7, H_b1_7, G_b1_7⟩ := V_b1_6
  obtain ⟨T7, h7, X7, e7, W7, st7⟩ := stJ X6 hx hZ e6 Ar_b1_7 (j := (5 : Int32)) (inb_of S_b1_7 ⟨by decide, by decide⟩) (g := (mkF m 37 #[vi (Int32.ofNat pw), .unset] [(.long 100000), (.int 5), (.ref b1), (.ref b1)])) rfl rfl (hb hby d_2_37)
  have V_b1_7 : Arv Z h7 b1 k1 .long (10 : Int32) [(.long (1 : Int64)), (.long (10 : Int64)), (.long (100 : Int64)), (.long (1000 : Int64)), (.long (10000 : Int64)), (.long (100000 : Int64)), (.long (0 : Int64)), (.long (0 : Int64)), (.long (0 : Int64)), (.long (0 : Int64))] (.long (0 : Int64)) := Arv.set Ar_b1_7 q_b1_7 S_b1_7 N_b1_7 H_b1_7 G_b1_7 rfl W7 5 rfl (Nat.le_of_ble_eq_true rfl)
  refine OEnds.st st7 ?_
  replace O0 : Ext Z.heap h7 := ext_wr O0 W7 ge_b1
  replace N0 := Fr.snoc X7 N0 ge_b1
  replace K0 : Keep h0 h7 [] := K0.wr W7 (Or.inr sz_b1)
  refine OEnds.st (S' := T7.setTop (mkF m 44 #[vi (Int32.ofNat pw), .unset] [(.long 1000000), (.int 6), (.ref b1), (.ref b1)])) (fun _ k => ?_) ?_
  · refine XS.dup X7.here hx rfl (hb hby d_2_38) rfl rfl ?_
    refine XS.bipush X7.here hx rfl (hb hby d_2_39) ?_
    refine X7.ldc2Long hx hown (mvT hZ (wq hw 230 rfl)) (g := (mkF m 41 #[vi (Int32.ofNat pw), .unset] [(.int 6), (.ref b1), (.ref b1)])) rfl (hb hby d_2_41) _ ?_
    exact k
  obtain ⟨cl_b1_8, Ar_b1_8, q_b1_8, S_b1_8, N_b1_8, H_b1_8, G_b1_8⟩ := V_b1_7
  obtain ⟨T8, h8, X8, e8, W8, st8⟩ := stJ X7 hx hZ e7 Ar_b1_8 (j := (6 : Int32)) (inb_of S_b1_8 ⟨by decide, by decide⟩) (g := (mkF m 44 #[vi (Int32.ofNat pw), .unset] [(.long 1000000), (.int 6), (.ref b1), (.ref b1)])) rfl rfl (hb hby d_2_44)
  have V_b1_8 : Arv Z h8 b1 k1 .long (10 : Int32) [(.long (1 : Int64)), (.long (10 : Int64)), (.long (100 : Int64)), (.long (1000 : Int64)), (.long (10000 : Int64)), (.long (100000 : Int64)), (.long (1000000 : Int64)), (.long (0 : Int64)), (.long (0 : Int64)), (.long (0 : Int64))] (.long (0 : Int64)) := Arv.set Ar_b1_8 q_b1_8 S_b1_8 N_b1_8 H_b1_8 G_b1_8 rfl W8 6 rfl (Nat.le_of_ble_eq_true rfl)
  refine OEnds.st st8 ?_
  replace O0 : Ext Z.heap h8 := ext_wr O0 W8 ge_b1
  replace N0 := Fr.snoc X8 N0 ge_b1
  replace K0 : Keep h0 h8 [] := K0.wr W8 (Or.inr sz_b1)
  refine OEnds.st (S' := T8.setTop (mkF m 51 #[vi (Int32.ofNat pw), .unset] [(.long 10000000), (.int 7), (.ref b1), (.ref b1)])) (fun _ k => ?_) ?_
  · refine XS.dup X8.here hx rfl (hb hby d_2_45) rfl rfl ?_
    refine XS.bipush X8.here hx rfl (hb hby d_2_46) ?_
    refine X8.ldc2Long hx hown (mvT hZ (wq hw 231 rfl)) (g := (mkF m 48 #[vi (Int32.ofNat pw), .unset] [(.int 7), (.ref b1), (.ref b1)])) rfl (hb hby d_2_48) _ ?_
    exact k
  obtain ⟨cl_b1_9, Ar_b1_9, q_b1_9, S_b1_9, N_b1_9, H_b1_9, G_b1_9⟩ := V_b1_8
  obtain ⟨T9, h9, X9, e9, W9, st9⟩ := stJ X8 hx hZ e8 Ar_b1_9 (j := (7 : Int32)) (inb_of S_b1_9 ⟨by decide, by decide⟩) (g := (mkF m 51 #[vi (Int32.ofNat pw), .unset] [(.long 10000000), (.int 7), (.ref b1), (.ref b1)])) rfl rfl (hb hby d_2_51)
  have V_b1_9 : Arv Z h9 b1 k1 .long (10 : Int32) [(.long (1 : Int64)), (.long (10 : Int64)), (.long (100 : Int64)), (.long (1000 : Int64)), (.long (10000 : Int64)), (.long (100000 : Int64)), (.long (1000000 : Int64)), (.long (10000000 : Int64)), (.long (0 : Int64)), (.long (0 : Int64))] (.long (0 : Int64)) := Arv.set Ar_b1_9 q_b1_9 S_b1_9 N_b1_9 H_b1_9 G_b1_9 rfl W9 7 rfl (Nat.le_of_ble_eq_true rfl)
  refine OEnds.st st9 ?_
  replace O0 : Ext Z.heap h9 := ext_wr O0 W9 ge_b1
  replace N0 := Fr.snoc X9 N0 ge_b1
  replace K0 : Keep h0 h9 [] := K0.wr W9 (Or.inr sz_b1)
  refine OEnds.st (S' := T9.setTop (mkF m 58 #[vi (Int32.ofNat pw), .unset] [(.long 100000000), (.int 8), (.ref b1), (.ref b1)])) (fun _ k => ?_) ?_
  · refine XS.dup X9.here hx rfl (hb hby d_2_52) rfl rfl ?_
    refine XS.bipush X9.here hx rfl (hb hby d_2_53) ?_
    refine X9.ldc2Long hx hown (mvT hZ (wq hw 232 rfl)) (g := (mkF m 55 #[vi (Int32.ofNat pw), .unset] [(.int 8), (.ref b1), (.ref b1)])) rfl (hb hby d_2_55) _ ?_
    exact k
  obtain ⟨cl_b1_10, Ar_b1_10, q_b1_10, S_b1_10, N_b1_10, H_b1_10, G_b1_10⟩ := V_b1_9
  obtain ⟨T10, h10, X10, e10, W10, st10⟩ := stJ X9 hx hZ e9 Ar_b1_10 (j := (8 : Int32)) (inb_of S_b1_10 ⟨by decide, by decide⟩) (g := (mkF m 58 #[vi (Int32.ofNat pw), .unset] [(.long 100000000), (.int 8), (.ref b1), (.ref b1)])) rfl rfl (hb hby d_2_58)
  have V_b1_10 : Arv Z h10 b1 k1 .long (10 : Int32) [(.long (1 : Int64)), (.long (10 : Int64)), (.long (100 : Int64)), (.long (1000 : Int64)), (.long (10000 : Int64)), (.long (100000 : Int64)), (.long (1000000 : Int64)), (.long (10000000 : Int64)), (.long (100000000 : Int64)), (.long (0 : Int64))] (.long (0 : Int64)) := Arv.set Ar_b1_10 q_b1_10 S_b1_10 N_b1_10 H_b1_10 G_b1_10 rfl W10 8 rfl (Nat.le_of_ble_eq_true rfl)
  refine OEnds.st st10 ?_
  replace O0 : Ext Z.heap h10 := ext_wr O0 W10 ge_b1
  replace N0 := Fr.snoc X10 N0 ge_b1
  replace K0 : Keep h0 h10 [] := K0.wr W10 (Or.inr sz_b1)
  refine OEnds.st (S' := T10.setTop (mkF m 65 #[vi (Int32.ofNat pw), .unset] [(.long 1000000000), (.int 9), (.ref b1), (.ref b1)])) (fun _ k => ?_) ?_
  · refine XS.dup X10.here hx rfl (hb hby d_2_59) rfl rfl ?_
    refine XS.bipush X10.here hx rfl (hb hby d_2_60) ?_
    refine X10.ldc2Long hx hown (mvT hZ (wq hw 233 rfl)) (g := (mkF m 62 #[vi (Int32.ofNat pw), .unset] [(.int 9), (.ref b1), (.ref b1)])) rfl (hb hby d_2_62) _ ?_
    exact k
  obtain ⟨cl_b1_11, Ar_b1_11, q_b1_11, S_b1_11, N_b1_11, H_b1_11, G_b1_11⟩ := V_b1_10
  obtain ⟨T11, h11, X11, e11, W11, st11⟩ := stJ X10 hx hZ e10 Ar_b1_11 (j := (9 : Int32)) (inb_of S_b1_11 ⟨by decide, by decide⟩) (g := (mkF m 65 #[vi (Int32.ofNat pw), .unset] [(.long 1000000000), (.int 9), (.ref b1), (.ref b1)])) rfl rfl (hb hby d_2_65)
  have V_b1_11 : Arv Z h11 b1 k1 .long (10 : Int32) [(.long (1 : Int64)), (.long (10 : Int64)), (.long (100 : Int64)), (.long (1000 : Int64)), (.long (10000 : Int64)), (.long (100000 : Int64)), (.long (1000000 : Int64)), (.long (10000000 : Int64)), (.long (100000000 : Int64)), (.long (1000000000 : Int64))] (.long (0 : Int64)) := Arv.set Ar_b1_11 q_b1_11 S_b1_11 N_b1_11 H_b1_11 G_b1_11 rfl W11 9 rfl (Nat.le_of_ble_eq_true rfl)
  refine OEnds.st st11 ?_
  replace O0 : Ext Z.heap h11 := ext_wr O0 W11 ge_b1
  replace N0 := Fr.snoc X11 N0 ge_b1
  replace K0 : Keep h0 h11 [] := K0.wr W11 (Or.inr sz_b1)
  refine OEnds.st (S' := T11.setTop (mkF m 69 #[vi (Int32.ofNat pw), vr b1] [(.int (Int32.ofNat pw)), (.ref b1)])) (fun _ k => ?_) ?_
  · refine XS.astoreN X11.here hx rfl (hb hby d_2_66) rfl rfl (l' := #[vi (Int32.ofNat pw), vr b1]) rfl ?_
    refine XS.aloadN X11.here hx rfl (hb hby d_2_67) rfl rfl ?_
    refine XS.iloadN X11.here hx rfl (hb hby d_2_68) rfl ?_
    exact k
  obtain ⟨cl_b1_12, Ar_b1_12, q_b1_12, S_b1_12, N_b1_12, H_b1_12, G_b1_12⟩ := id V_b1_11
  refine OEnds.st (S' := T11.setTop (mkF m 70 #[vi (Int32.ofNat pw), vr b1] [(.long (Int64.ofNat (10 ^ pw)))])) (X11.laload hx (j := (Int32.ofNat pw)) (v := (.long (Int64.ofNat (10 ^ pw)))) (by rw [e11]; exact Ar_b1_12.1) (State.isArrayOf_alike hZ.alike Ar_b1_12.2.1) Ar_b1_12.2.2 (inb_of S_b1_12 (ix_in (k := 10) (by omega) (by decide))) (H_b1_12.at (inb_of S_b1_12 (ix_in (k := 10) (by omega) (by decide))) (pow_at hk)) (g := (mkF m 69 #[vi (Int32.ofNat pw), vr b1] [(.int (Int32.ofNat pw)), (.ref b1)])) rfl rfl (hb hby d_2_69)) ?_
  exact OEnds.ret X11 hx hret hlk rfl (Or.inr (Or.inl ⟨rfl, rfl, _, rfl⟩)) (hb hby d_2_70) (by decide) (by decide) (by rw [e11]; exact ⟨rfl, N0, K0⟩)
-- com/example/wire_to_worker/wiretoworker/broker/QueueNameToStringPinLaw.digitOk:(Ljava/lang/String;IIJI)Z
def Q_digitOk (Z : State) (a : Addr) (j : Nat) (t : Addr) (k : ClassId) (sg A d : Nat) (tp : List Int32) (h0 : Heap) (v : Option Value) (h : Heap) (L : List Loc) : Prop := v = some (.int 1) ∧ Fr Z.heap.size L ∧ Keep h0 h []
theorem ef_digitOk (m : MethodId) (a : Addr) : entryFrame m #[(.ref a), (.int (Int32.ofNat (6 + sg))), (.int (Int32.ofNat d)), (.long (Int64.ofNat A)), (.int (Int32.ofNat j))] 8 = mkF m 0 #[vr a, vi (Int32.ofNat (6 + sg)), vi (Int32.ofNat d), vj (Int64.ofNat A), .second, vi (Int32.ofNat j), .unset, .unset] [] := by first | (simp [entryFrame, mkF, argsToLocals, Value.category, vi, vj, vr]; done) | rfl
theorem d_4_0 : decode method_4_code 0 = .ok (.iload 5, 2) := by decide +kernel
theorem d_4_2 : decode method_4_code 2 = .ok (.iload_n 2, 1) := by decide +kernel
theorem d_4_3 : decode method_4_code 3 = .ok (.if_icmp .lt 5, 3) := by decide +kernel
theorem d_4_8 : decode method_4_code 8 = .ok (.lload_n 3, 1) := by decide +kernel
theorem d_4_9 : decode method_4_code 9 = .ok (.iload_n 2, 1) := by decide +kernel
theorem d_4_10 : decode method_4_code 10 = .ok (.iconst 1, 1) := by decide +kernel
theorem d_4_11 : decode method_4_code 11 = .ok (.isub, 1) := by decide +kernel
theorem d_4_12 : decode method_4_code 12 = .ok (.iload 5, 2) := by decide +kernel
theorem d_4_14 : decode method_4_code 14 = .ok (.isub, 1) := by decide +kernel
theorem d_4_15 : decode method_4_code 15 = .ok (.invokestatic 25, 3) := by decide +kernel
theorem pd_25 : parseMethodDescriptor "(I)J" = some ⟨[.int], some .long⟩ := by decide +kernel
theorem d_4_18 : decode method_4_code 18 = .ok (.ldiv, 1) := by decide +kernel
theorem d_4_19 : decode method_4_code 19 = .ok (.ldc2_w 7, 3) := by decide +kernel
theorem d_4_22 : decode method_4_code 22 = .ok (.lrem, 1) := by decide +kernel
theorem d_4_23 : decode method_4_code 23 = .ok (.lstore 6, 2) := by decide +kernel
theorem d_4_25 : decode method_4_code 25 = .ok (.aload_n 0, 1) := by decide +kernel
theorem d_4_26 : decode method_4_code 26 = .ok (.iload_n 1, 1) := by decide +kernel
theorem d_4_27 : decode method_4_code 27 = .ok (.iload 5, 2) := by decide +kernel
theorem d_4_29 : decode method_4_code 29 = .ok (.iadd, 1) := by decide +kernel
theorem d_4_30 : decode method_4_code 30 = .ok (.invokevirtual 31, 3) := by decide +kernel
theorem pd_26 : parseMethodDescriptor "(I)C" = some ⟨[.int], some .char⟩ := by decide +kernel
theorem d_4_33 : decode method_4_code 33 = .ok (.bipush 48, 2) := by decide +kernel
theorem d_4_35 : decode method_4_code 35 = .ok (.lload 6, 2) := by decide +kernel
theorem d_4_37 : decode method_4_code 37 = .ok (.l2i, 1) := by decide +kernel
theorem d_4_38 : decode method_4_code 38 = .ok (.iadd, 1) := by decide +kernel
theorem d_4_39 : decode method_4_code 39 = .ok (.i2c, 1) := by decide +kernel
theorem d_4_40 : decode method_4_code 40 = .ok (.if_icmp .ne 7, 3) := by decide +kernel
theorem d_4_43 : decode method_4_code 43 = .ok (.iconst 1, 1) := by decide +kernel
theorem d_4_44 : decode method_4_code 44 = .ok (.goto 4, 3) := by decide +kernel
theorem d_4_48 : decode method_4_code 48 = .ok (.ireturn, 1) := by decide +kernel
theorem d_4_6 : decode method_4_code 6 = .ok (.iconst 1, 1) := by decide +kernel
theorem d_4_7 : decode method_4_code 7 = .ok (.ireturn, 1) := by decide +kernel
set_option maxRecDepth 65536 in
set_option maxHeartbeats 40000000 in
theorem rm_digitOk (l : Launch) {Z : State} {a0 : Array Value} (hD : Wd Z a0) (a : Addr) (j : Nat) (t : Addr) (k : ClassId) (sg A d : Nat) (tp : List Int32) {h0 : Heap} (O0 : Ext Z.heap h0) (E_a : Exa Z h0 a "java/lang/String") (F_coder_a : Fld Z h0 a "java/lang/String" "coder" "B" (.int 0)) (F_value_a : Fld Z h0 a "java/lang/String" "value" "[B" (.ref t)) (V_t : Arv Z h0 t k .byte (Int32.ofNat (qs sg A d tp).length) (bys (qs sg A d tp)) (.int 0)) (htp : tp.length ≤ 3) (hDig : Dig A d) (hA : A ≤ 2147483648) (hsg : sg ≤ 1) (hbd : ∀ c ∈ tp, ¬ c < 0 ∧ ¬ (255 : Int32) < c) (hj : j ≤ 9) :
    Con l Z (⟨"com/example/wire_to_worker/wiretoworker/broker/QueueNameToStringPinLaw", "digitOk", "(Ljava/lang/String;IIJI)Z"⟩ : MethodName) method_4_code 8 (some .boolean) [] ({ frames := 4, cells := 1, slots := 10, locals := 53 } : Room) #[(.ref a), (.int (Int32.ofNat (6 + sg))), (.int (Int32.ofNat d)), (.long (Int64.ofNat A)), (.int (Int32.ofNat j))] h0 (Q_digitOk Z a j t k sg A d tp h0) := by
  refine Con.walk (plainFor_of_name pn_10) ?_
  intro p e s m below meth c T0 X0 hx hZ hby hml hown hnm hret hlk e0
  obtain ⟨hw, ⟨cz, S_CS, hcz⟩, ⟨sf, S_SF, hsf⟩, ⟨d1, d2, kd1, kd2, S_D1, S_D2, V_D1, V_D2⟩⟩ := id hD
  have N0 := Fr.nil Z.heap.size
  have K0 : Keep h0 h0 [] := Keep.refl _ _
  refine OEnds.cast (ef_digitOk m a) ?_
  have hd10 := hDig.2.1
  have hql : (qs sg A d tp).length ≤ 4000 := by rw [qs_len]; have := hDig.2.1; omega
  rcases Classical.em (j < d) with hjd | hjd
  · refine OEnds.st (S' := T0.setTop (mkF m 12 #[vr a, vi (Int32.ofNat (6 + sg)), vi (Int32.ofNat d), vj (Int64.ofNat A), .second, vi (Int32.ofNat j), .unset, .unset] [(.int ((Int32.ofNat d) - (1 : Int32))), (.long (Int64.ofNat A))])) (fun _ k => ?_) ?_
    · refine XS.iload X0.here hx rfl (hb hby d_4_0) rfl ?_
      refine XS.iloadN X0.here hx rfl (hb hby d_4_2) rfl ?_
      refine XS.icmpYes X0.here hx rfl (pc0 := 3) (pc' := 8) rfl (hb hby d_4_3) rfl (tlt ((ofn_lt (by omega) (by omega)).mpr hjd)).1 (by decide) (by decide) ?_
      refine XS.lloadN X0.here hx rfl (hb hby d_4_8) rfl ?_
      show Steps p.tables e below (T0.setTop (mkF m 9 #[vr a, vi (Int32.ofNat (6 + sg)), vi (Int32.ofNat d), vj (Int64.ofNat A), .second, vi (Int32.ofNat j), .unset, .unset] [(.long (Int64.ofNat A))])) _
      refine XS.iloadN X0.here hx rfl (hb hby d_4_9) rfl ?_
      refine XS.iconst X0.here hx rfl (hb hby d_4_10) ?_
      refine XS.isub X0.here hx rfl (hb hby d_4_11) rfl ?_
      exact k
    rw [show Int32.ofNat d - (1 : Int32) = Int32.ofNat (d - 1) from ofn_sub (k := 1) (by omega)]
    refine OEnds.st (S' := T0.setTop (mkF m 15 #[vr a, vi (Int32.ofNat (6 + sg)), vi (Int32.ofNat d), vj (Int64.ofNat A), .second, vi (Int32.ofNat j), .unset, .unset] [(.int ((Int32.ofNat (d - 1)) - (Int32.ofNat j))), (.long (Int64.ofNat A))])) (fun _ k => ?_) ?_
    · refine XS.iload X0.here hx rfl (hb hby d_4_12) rfl ?_
      refine XS.isub X0.here hx rfl (hb hby d_4_14) rfl ?_
      exact k
    rw [ofn_sub (n := d - 1) (k := j) (by omega)]
    obtain ⟨_, T1, h1, L1, X1, e1, hQ1, st1⟩ := callC X0 hx hZ hown (wq hw 222 rfl) (wq hw 223 rfl) (wq hw 193 rfl) (wq hw 224 rfl) (by decide) (kc := 1) (ks := 10) (Con.sb (W := 2) (rm_pow10 l hD (d - 1 - j) O0 (by omega)) hZ (wq hw 224 rfl) (wq hw 193 rfl) (by decide) (by decide)) e0 (g := (mkF m 15 #[vr a, vi (Int32.ofNat (6 + sg)), vi (Int32.ofNat d), vj (Int64.ofNat A), .second, vi (Int32.ofNat j), .unset, .unset] [(.int (Int32.ofNat (d - 1 - j))), (.long (Int64.ofNat A))])) rfl (by rw [hml]; rfl) (argsL := [(.int (Int32.ofNat (d - 1 - j)))]) (rest := [(.long (Int64.ofNat A))]) (lenOf pd_25 rfl) rfl (by show 2 * 0 + _ ≤ _; exact Nat.le_of_eq rfl) (hb hby d_4_15) (by decide) (by decide)
    obtain ⟨rfl, Nq1, Kq1⟩ := hQ1
    refine OEnds.st st1 ?_
    replace N0 := Fr.app N0 Nq1
    replace E_a := E_a.keep Kq1
    replace F_coder_a := F_coder_a.keep Kq1 nin0
    replace F_value_a := F_value_a.keep Kq1 nin0
    replace V_t := V_t.keep Kq1 nin0
    replace O0 : Ext Z.heap h1 := ext_keep O0 Kq1 all0
    replace K0 : Keep h0 h1 [] := K0.trans Kq1 all0
    have hp := pow_le (k := d - 1 - j) (by omega)
    have hnz : ¬ Int64.ofNat (10 ^ (d - 1 - j)) = 0 := fun q => by
      have r := congrArg Int64.toInt q
      rw [ofn64 (by omega)] at r
      have e0 : (0 : Int64).toInt = 0 := rfl
      omega
    refine OEnds.st (S' := T1.setTop (mkF m 30 #[vr a, vi (Int32.ofNat (6 + sg)), vi (Int32.ofNat d), vj (Int64.ofNat A), .second, vi (Int32.ofNat j), vj (((Int64.ofNat A) / (Int64.ofNat (10 ^ (d - 1 - j)))) - ((Int64.ofNat A) / (Int64.ofNat (10 ^ (d - 1 - j)))) / (10 : Int64) * (10 : Int64)), .second] [(.int ((Int32.ofNat (6 + sg)) + (Int32.ofNat j))), (.ref a)])) (fun _ k => ?_) ?_
    · refine XS.ldiv X1.here hx rfl (hb hby d_4_18) rfl hnz ?_
      refine X1.ldc2Long hx hown (mvT hZ (wq hw 195 rfl)) (g := (mkF m 19 #[vr a, vi (Int32.ofNat (6 + sg)), vi (Int32.ofNat d), vj (Int64.ofNat A), .second, vi (Int32.ofNat j), .unset, .unset] [(.long ((Int64.ofNat A) / (Int64.ofNat (10 ^ (d - 1 - j)))))])) rfl (hb hby d_4_19) _ ?_
      refine XS.lrem X1.here hx rfl (hb hby d_4_22) rfl (by decide) ?_
      refine XS.lstore X1.here hx rfl (hb hby d_4_23) rfl (l' := #[vr a, vi (Int32.ofNat (6 + sg)), vi (Int32.ofNat d), vj (Int64.ofNat A), .second, vi (Int32.ofNat j), vj (((Int64.ofNat A) / (Int64.ofNat (10 ^ (d - 1 - j)))) - ((Int64.ofNat A) / (Int64.ofNat (10 ^ (d - 1 - j)))) / (10 : Int64) * (10 : Int64)), .second]) rfl ?_
      show Steps p.tables e below (T1.setTop (mkF m 25 #[vr a, vi (Int32.ofNat (6 + sg)), vi (Int32.ofNat d), vj (Int64.ofNat A), .second, vi (Int32.ofNat j), vj (((Int64.ofNat A) / (Int64.ofNat (10 ^ (d - 1 - j)))) - ((Int64.ofNat A) / (Int64.ofNat (10 ^ (d - 1 - j)))) / (10 : Int64) * (10 : Int64)), .second] [])) _
      refine XS.aloadN X1.here hx rfl (hb hby d_4_25) rfl rfl ?_
      refine XS.iloadN X1.here hx rfl (hb hby d_4_26) rfl ?_
      refine XS.iload X1.here hx rfl (hb hby d_4_27) rfl ?_
      refine XS.iadd X1.here hx rfl (hb hby d_4_29) rfl ?_
      exact k
    rw [show (Int32.ofNat (6 + sg)) + Int32.ofNat j = Int32.ofNat (6 + sg + j) from ofn_add (6 + sg) j]
    obtain ⟨_, T2, h2, L2, X2, e2, hQ2, st2⟩ := virtC X1 hx hZ (y := (⟨"java/lang/String", "charAt", "(I)C"⟩ : MethodName)) (z := (⟨"java/lang/String", "charAt", "(I)C"⟩ : MethodName)) hown (wq hw 197 rfl) (wq hw 198 rfl) (nf_sel (args := #[]) (mvT hZ (wq hw 75 rfl)) rfl) (wq hw 200 rfl) (wq hw 199 rfl) (by decide) (kc := 0) (ks := 0) (Con.sb (W := 0) (rm_chAt l hD a (6 + sg + j) t k (qs sg A d tp) (Int32.ofNat (48 + A / 10 ^ (d - 1 - j) % 10)) O0 E_a F_coder_a F_value_a V_t hql (qs_dg hjd) (ofn_rng (by omega))) hZ (wq hw 201 rfl) (wq hw 3 rfl) (by decide) (by decide)) e1 E_a (g := (mkF m 30 #[vr a, vi (Int32.ofNat (6 + sg)), vi (Int32.ofNat d), vj (Int64.ofNat A), .second, vi (Int32.ofNat j), vj (((Int64.ofNat A) / (Int64.ofNat (10 ^ (d - 1 - j)))) - ((Int64.ofNat A) / (Int64.ofNat (10 ^ (d - 1 - j)))) / (10 : Int64) * (10 : Int64)), .second] [(.int (Int32.ofNat (6 + sg + j))), (.ref a)])) rfl (by rw [hml]; rfl) (argsL := [(.int (Int32.ofNat (6 + sg + j)))]) (rest := []) (lenOf pd_26 rfl) rfl (by show 2 * 0 + _ ≤ _; exact Nat.le_of_eq rfl) (hb hby d_4_30) (by decide) (by decide)
    obtain ⟨rfl, Nq2, Hq2⟩ := hQ2
    refine OEnds.st st2 ?_
    replace N0 := Fr.app N0 Nq2
    replace e2 := e2.trans Hq2
    refine OEnds.st (S' := T2.setTop (mkF m 40 #[vr a, vi (Int32.ofNat (6 + sg)), vi (Int32.ofNat d), vj (Int64.ofNat A), .second, vi (Int32.ofNat j), vj (((Int64.ofNat A) / (Int64.ofNat (10 ^ (d - 1 - j)))) - ((Int64.ofNat A) / (Int64.ofNat (10 ^ (d - 1 - j)))) / (10 : Int64) * (10 : Int64)), .second] [(.int (((48 : Int32) + ((((Int64.ofNat A) / (Int64.ofNat (10 ^ (d - 1 - j)))) - ((Int64.ofNat A) / (Int64.ofNat (10 ^ (d - 1 - j)))) / (10 : Int64) * (10 : Int64)).toInt32)).toUInt32.toUInt16.toUInt32.toInt32)), (.int (Int32.ofNat (48 + A / 10 ^ (d - 1 - j) % 10)))])) (fun _ k => ?_) ?_
    · refine XS.bipush X2.here hx rfl (hb hby d_4_33) ?_
      refine XS.lload X2.here hx rfl (hb hby d_4_35) rfl ?_
      refine XS.l2i X2.here hx rfl (hb hby d_4_37) rfl ?_
      refine XS.iadd X2.here hx rfl (hb hby d_4_38) rfl ?_
      show Steps p.tables e below (T2.setTop (mkF m 39 #[vr a, vi (Int32.ofNat (6 + sg)), vi (Int32.ofNat d), vj (Int64.ofNat A), .second, vi (Int32.ofNat j), vj (((Int64.ofNat A) / (Int64.ofNat (10 ^ (d - 1 - j)))) - ((Int64.ofNat A) / (Int64.ofNat (10 ^ (d - 1 - j)))) / (10 : Int64) * (10 : Int64)), .second] [(.int ((48 : Int32) + ((((Int64.ofNat A) / (Int64.ofNat (10 ^ (d - 1 - j)))) - ((Int64.ofNat A) / (Int64.ofNat (10 ^ (d - 1 - j)))) / (10 : Int64) * (10 : Int64)).toInt32))), (.int (Int32.ofNat (48 + A / 10 ^ (d - 1 - j) % 10)))])) _
      refine XS.i2c X2.here hx rfl (hb hby d_4_39) rfl ?_
      exact k
    rw [dig_long hA hp.1 hp.2]
    refine OEnds.st (S' := T2.setTop (mkF m 48 #[vr a, vi (Int32.ofNat (6 + sg)), vi (Int32.ofNat d), vj (Int64.ofNat A), .second, vi (Int32.ofNat j), vj (((Int64.ofNat A) / (Int64.ofNat (10 ^ (d - 1 - j)))) - ((Int64.ofNat A) / (Int64.ofNat (10 ^ (d - 1 - j)))) / (10 : Int64) * (10 : Int64)), .second] [(.int 1)])) (fun _ k => ?_) ?_
    · refine XS.icmpNo X2.here hx rfl (hb hby d_4_40) rfl (teq rfl).2 ?_
      refine XS.iconst X2.here hx rfl (hb hby d_4_43) ?_
      refine XS.goto X2.here hx rfl (pc0 := 44) (pc' := 48) rfl (hb hby d_4_44) (by decide) (by decide) ?_
      exact k
    exact OEnds.ret X2 hx hret hlk (by decide) (Or.inl ⟨rfl, by simp, _, rfl⟩) (hb hby d_4_48) (by decide) (by decide) (by rw [e2]; exact ⟨rfl, N0, K0⟩)
  · refine OEnds.st (S' := T0.setTop (mkF m 7 #[vr a, vi (Int32.ofNat (6 + sg)), vi (Int32.ofNat d), vj (Int64.ofNat A), .second, vi (Int32.ofNat j), .unset, .unset] [(.int 1)])) (fun _ k => ?_) ?_
    · refine XS.iload X0.here hx rfl (hb hby d_4_0) rfl ?_
      refine XS.iloadN X0.here hx rfl (hb hby d_4_2) rfl ?_
      refine XS.icmpNo X0.here hx rfl (hb hby d_4_3) rfl (flt (fun q => hjd ((ofn_lt (by omega) (by omega)).mp q))).1 ?_
      refine XS.iconst X0.here hx rfl (hb hby d_4_6) ?_
      exact k
    exact OEnds.ret X0 hx hret hlk (by decide) (Or.inl ⟨rfl, by simp, _, rfl⟩) (hb hby d_4_7) (by decide) (by decide) (by rw [e0]; exact ⟨rfl, N0, K0⟩)
-- com/example/wire_to_worker/wiretoworker/broker/QueueNameToStringPinLaw.ofTopic:(Ljava/lang/String;I)Z
def Q_ofTopic (Z : State) (a : Addr) (t : Addr) (k : ClassId) (sg A d : Nat) (tp : List Int32) (h0 : Heap) (v : Option Value) (h : Heap) (L : List Loc) : Prop := v = some (.int 1) ∧ Fr Z.heap.size L ∧ h = h0
theorem ef_ofTopic (m : MethodId) (a : Addr) : entryFrame m #[(.ref a), (.int (Int32.ofNat (6 + sg + d)))] 2 = mkF m 0 #[vr a, vi (Int32.ofNat (6 + sg + d))] [] := by first | (simp [entryFrame, mkF, argsToLocals, Value.category, vi, vj, vr]; done) | rfl
theorem d_5_0 : decode method_5_code 0 = .ok (.aload_n 0, 1) := by decide +kernel
theorem d_5_1 : decode method_5_code 1 = .ok (.iload_n 1, 1) := by decide +kernel
theorem d_5_2 : decode method_5_code 2 = .ok (.invokevirtual 31, 3) := by decide +kernel
theorem d_5_5 : decode method_5_code 5 = .ok (.bipush 32, 2) := by decide +kernel
theorem d_5_7 : decode method_5_code 7 = .ok (.if_icmp .ne 119, 3) := by decide +kernel
theorem d_5_10 : decode method_5_code 10 = .ok (.aload_n 0, 1) := by decide +kernel
theorem d_5_11 : decode method_5_code 11 = .ok (.iload_n 1, 1) := by decide +kernel
theorem d_5_12 : decode method_5_code 12 = .ok (.iconst 1, 1) := by decide +kernel
theorem d_5_13 : decode method_5_code 13 = .ok (.iadd, 1) := by decide +kernel
theorem d_5_14 : decode method_5_code 14 = .ok (.invokevirtual 31, 3) := by decide +kernel
theorem d_5_17 : decode method_5_code 17 = .ok (.bipush 111, 2) := by decide +kernel
theorem d_5_19 : decode method_5_code 19 = .ok (.if_icmp .ne 107, 3) := by decide +kernel
theorem d_5_22 : decode method_5_code 22 = .ok (.aload_n 0, 1) := by decide +kernel
theorem d_5_23 : decode method_5_code 23 = .ok (.iload_n 1, 1) := by decide +kernel
theorem d_5_24 : decode method_5_code 24 = .ok (.iconst 2, 1) := by decide +kernel
theorem d_5_25 : decode method_5_code 25 = .ok (.iadd, 1) := by decide +kernel
theorem d_5_26 : decode method_5_code 26 = .ok (.invokevirtual 31, 3) := by decide +kernel
theorem d_5_29 : decode method_5_code 29 = .ok (.bipush 102, 2) := by decide +kernel
theorem d_5_31 : decode method_5_code 31 = .ok (.if_icmp .ne 95, 3) := by decide +kernel
theorem d_5_34 : decode method_5_code 34 = .ok (.aload_n 0, 1) := by decide +kernel
theorem d_5_35 : decode method_5_code 35 = .ok (.iload_n 1, 1) := by decide +kernel
theorem d_5_36 : decode method_5_code 36 = .ok (.iconst 3, 1) := by decide +kernel
theorem d_5_37 : decode method_5_code 37 = .ok (.iadd, 1) := by decide +kernel
theorem d_5_38 : decode method_5_code 38 = .ok (.invokevirtual 31, 3) := by decide +kernel
theorem d_5_41 : decode method_5_code 41 = .ok (.bipush 32, 2) := by decide +kernel
theorem d_5_43 : decode method_5_code 43 = .ok (.if_icmp .ne 83, 3) := by decide +kernel
theorem d_5_46 : decode method_5_code 46 = .ok (.aload_n 0, 1) := by decide +kernel
theorem d_5_47 : decode method_5_code 47 = .ok (.iload_n 1, 1) := by decide +kernel
theorem d_5_48 : decode method_5_code 48 = .ok (.iconst 4, 1) := by decide +kernel
theorem d_5_49 : decode method_5_code 49 = .ok (.iadd, 1) := by decide +kernel
theorem d_5_50 : decode method_5_code 50 = .ok (.invokevirtual 31, 3) := by decide +kernel
theorem d_5_53 : decode method_5_code 53 = .ok (.bipush 116, 2) := by decide +kernel
theorem d_5_55 : decode method_5_code 55 = .ok (.if_icmp .ne 71, 3) := by decide +kernel
theorem d_5_58 : decode method_5_code 58 = .ok (.aload_n 0, 1) := by decide +kernel
theorem d_5_59 : decode method_5_code 59 = .ok (.iload_n 1, 1) := by decide +kernel
theorem d_5_60 : decode method_5_code 60 = .ok (.iconst 5, 1) := by decide +kernel
theorem d_5_61 : decode method_5_code 61 = .ok (.iadd, 1) := by decide +kernel
theorem d_5_62 : decode method_5_code 62 = .ok (.invokevirtual 31, 3) := by decide +kernel
theorem d_5_65 : decode method_5_code 65 = .ok (.bipush 111, 2) := by decide +kernel
theorem d_5_67 : decode method_5_code 67 = .ok (.if_icmp .ne 59, 3) := by decide +kernel
theorem d_5_70 : decode method_5_code 70 = .ok (.aload_n 0, 1) := by decide +kernel
theorem d_5_71 : decode method_5_code 71 = .ok (.iload_n 1, 1) := by decide +kernel
theorem d_5_72 : decode method_5_code 72 = .ok (.bipush 6, 2) := by decide +kernel
theorem d_5_74 : decode method_5_code 74 = .ok (.iadd, 1) := by decide +kernel
theorem d_5_75 : decode method_5_code 75 = .ok (.invokevirtual 31, 3) := by decide +kernel
theorem d_5_78 : decode method_5_code 78 = .ok (.bipush 112, 2) := by decide +kernel
theorem d_5_80 : decode method_5_code 80 = .ok (.if_icmp .ne 46, 3) := by decide +kernel
theorem d_5_83 : decode method_5_code 83 = .ok (.aload_n 0, 1) := by decide +kernel
theorem d_5_84 : decode method_5_code 84 = .ok (.iload_n 1, 1) := by decide +kernel
theorem d_5_85 : decode method_5_code 85 = .ok (.bipush 7, 2) := by decide +kernel
theorem d_5_87 : decode method_5_code 87 = .ok (.iadd, 1) := by decide +kernel
theorem d_5_88 : decode method_5_code 88 = .ok (.invokevirtual 31, 3) := by decide +kernel
theorem d_5_91 : decode method_5_code 91 = .ok (.bipush 105, 2) := by decide +kernel
theorem d_5_93 : decode method_5_code 93 = .ok (.if_icmp .ne 33, 3) := by decide +kernel
theorem d_5_96 : decode method_5_code 96 = .ok (.aload_n 0, 1) := by decide +kernel
theorem d_5_97 : decode method_5_code 97 = .ok (.iload_n 1, 1) := by decide +kernel
theorem d_5_98 : decode method_5_code 98 = .ok (.bipush 8, 2) := by decide +kernel
theorem d_5_100 : decode method_5_code 100 = .ok (.iadd, 1) := by decide +kernel
theorem d_5_101 : decode method_5_code 101 = .ok (.invokevirtual 31, 3) := by decide +kernel
theorem d_5_104 : decode method_5_code 104 = .ok (.bipush 99, 2) := by decide +kernel
theorem d_5_106 : decode method_5_code 106 = .ok (.if_icmp .ne 20, 3) := by decide +kernel
theorem d_5_109 : decode method_5_code 109 = .ok (.aload_n 0, 1) := by decide +kernel
theorem d_5_110 : decode method_5_code 110 = .ok (.iload_n 1, 1) := by decide +kernel
theorem d_5_111 : decode method_5_code 111 = .ok (.bipush 9, 2) := by decide +kernel
theorem d_5_113 : decode method_5_code 113 = .ok (.iadd, 1) := by decide +kernel
theorem d_5_114 : decode method_5_code 114 = .ok (.invokevirtual 31, 3) := by decide +kernel
theorem d_5_117 : decode method_5_code 117 = .ok (.bipush 32, 2) := by decide +kernel
theorem d_5_119 : decode method_5_code 119 = .ok (.if_icmp .ne 7, 3) := by decide +kernel
theorem d_5_122 : decode method_5_code 122 = .ok (.iconst 1, 1) := by decide +kernel
theorem d_5_123 : decode method_5_code 123 = .ok (.goto 4, 3) := by decide +kernel
theorem d_5_127 : decode method_5_code 127 = .ok (.ireturn, 1) := by decide +kernel
set_option maxRecDepth 65536 in
set_option maxHeartbeats 40000000 in
theorem rm_ofTopic (l : Launch) {Z : State} {a0 : Array Value} (hD : Wd Z a0) (a : Addr) (t : Addr) (k : ClassId) (sg A d : Nat) (tp : List Int32) {h0 : Heap} (O0 : Ext Z.heap h0) (E_a : Exa Z h0 a "java/lang/String") (F_coder_a : Fld Z h0 a "java/lang/String" "coder" "B" (.int 0)) (F_value_a : Fld Z h0 a "java/lang/String" "value" "[B" (.ref t)) (V_t : Arv Z h0 t k .byte (Int32.ofNat (qs sg A d tp).length) (bys (qs sg A d tp)) (.int 0)) (htp : tp.length ≤ 3) (hDig : Dig A d) (hA : A ≤ 2147483648) (hsg : sg ≤ 1) (hbd : ∀ c ∈ tp, ¬ c < 0 ∧ ¬ (255 : Int32) < c) :
    Con l Z (⟨"com/example/wire_to_worker/wiretoworker/broker/QueueNameToStringPinLaw", "ofTopic", "(Ljava/lang/String;I)Z"⟩ : MethodName) method_5_code 2 (some .boolean) [] ({ frames := 4, cells := 0, slots := 0, locals := 53 } : Room) #[(.ref a), (.int (Int32.ofNat (6 + sg + d)))] h0 (Q_ofTopic Z a t k sg A d tp h0) := by
  refine Con.walk (plainFor_of_name pn_10) ?_
  intro p e s m below meth c T0 X0 hx hZ hby hml hown hnm hret hlk e0
  obtain ⟨hw, ⟨cz, S_CS, hcz⟩, ⟨sf, S_SF, hsf⟩, ⟨d1, d2, kd1, kd2, S_D1, S_D2, V_D1, V_D2⟩⟩ := id hD
  have N0 := Fr.nil Z.heap.size
  refine OEnds.cast (ef_ofTopic m a) ?_
  have hql : (qs sg A d tp).length ≤ 4000 := by rw [qs_len]; have := hDig.2.1; omega
  refine OEnds.st (S' := T0.setTop (mkF m 2 #[vr a, vi (Int32.ofNat (6 + sg + d))] [(.int (Int32.ofNat (6 + sg + d))), (.ref a)])) (fun _ k => ?_) ?_
  · refine XS.aloadN X0.here hx rfl (hb hby d_5_0) rfl rfl ?_
    refine XS.iloadN X0.here hx rfl (hb hby d_5_1) rfl ?_
    exact k
  obtain ⟨_, T1, h1, L1, X1, e1, hQ1, st1⟩ := virtC X0 hx hZ (y := (⟨"java/lang/String", "charAt", "(I)C"⟩ : MethodName)) (z := (⟨"java/lang/String", "charAt", "(I)C"⟩ : MethodName)) hown (wq hw 197 rfl) (wq hw 198 rfl) (nf_sel (args := #[]) (mvT hZ (wq hw 75 rfl)) rfl) (wq hw 200 rfl) (wq hw 199 rfl) (by decide) (kc := 0) (ks := 0) (Con.sb (W := 0) (rm_chAt l hD a (6 + sg + d) t k (qs sg A d tp) (32 : Int32) O0 E_a F_coder_a F_value_a V_t hql (qs_of (j := 0) (by decide) rfl) ⟨by decide, by decide⟩) hZ (wq hw 201 rfl) (wq hw 3 rfl) (by decide) (by decide)) e0 E_a (g := (mkF m 2 #[vr a, vi (Int32.ofNat (6 + sg + d))] [(.int (Int32.ofNat (6 + sg + d))), (.ref a)])) rfl (by rw [hml]; rfl) (argsL := [(.int (Int32.ofNat (6 + sg + d)))]) (rest := []) (lenOf pd_26 rfl) rfl (by show 2 * 0 + _ ≤ _; exact Nat.le_of_eq rfl) (hb hby d_5_2) (by decide) (by decide)
  obtain ⟨rfl, Nq1, Hq1⟩ := hQ1
  refine OEnds.st st1 ?_
  replace N0 := Fr.app N0 Nq1
  replace e1 := e1.trans Hq1
  refine OEnds.st (S' := T1.setTop (mkF m 14 #[vr a, vi (Int32.ofNat (6 + sg + d))] [(.int ((Int32.ofNat (6 + sg + d)) + (1 : Int32))), (.ref a)])) (fun _ k => ?_) ?_
  · refine XS.bipush X1.here hx rfl (hb hby d_5_5) ?_
    refine XS.icmpNo X1.here hx rfl (hb hby d_5_7) rfl (teq (by decide)).2 ?_
    refine XS.aloadN X1.here hx rfl (hb hby d_5_10) rfl rfl ?_
    refine XS.iloadN X1.here hx rfl (hb hby d_5_11) rfl ?_
    show Steps p.tables e below (T1.setTop (mkF m 12 #[vr a, vi (Int32.ofNat (6 + sg + d))] [(.int (Int32.ofNat (6 + sg + d))), (.ref a)])) _
    refine XS.iconst X1.here hx rfl (hb hby d_5_12) ?_
    refine XS.iadd X1.here hx rfl (hb hby d_5_13) rfl ?_
    exact k
  rw [show (Int32.ofNat (6 + sg + d)) + (1 : Int32) = Int32.ofNat (6 + sg + d + 1) from ofn_add (6 + sg + d) 1]
  obtain ⟨_, T2, h2, L2, X2, e2, hQ2, st2⟩ := virtC X1 hx hZ (y := (⟨"java/lang/String", "charAt", "(I)C"⟩ : MethodName)) (z := (⟨"java/lang/String", "charAt", "(I)C"⟩ : MethodName)) hown (wq hw 197 rfl) (wq hw 198 rfl) (nf_sel (args := #[]) (mvT hZ (wq hw 75 rfl)) rfl) (wq hw 200 rfl) (wq hw 199 rfl) (by decide) (kc := 0) (ks := 0) (Con.sb (W := 0) (rm_chAt l hD a (6 + sg + d + 1) t k (qs sg A d tp) (111 : Int32) O0 E_a F_coder_a F_value_a V_t hql (qs_of (j := 1) (by decide) rfl) ⟨by decide, by decide⟩) hZ (wq hw 201 rfl) (wq hw 3 rfl) (by decide) (by decide)) e1 E_a (g := (mkF m 14 #[vr a, vi (Int32.ofNat (6 + sg + d))] [(.int (Int32.ofNat (6 + sg + d + 1))), (.ref a)])) rfl (by rw [hml]; rfl) (argsL := [(.int (Int32.ofNat (6 + sg + d + 1)))]) (rest := []) (lenOf pd_26 rfl) rfl (by show 2 * 0 + _ ≤ _; exact Nat.le_of_eq rfl) (hb hby d_5_14) (by decide) (by decide)
  obtain ⟨rfl, Nq2, Hq2⟩ := hQ2
  refine OEnds.st st2 ?_
  replace N0 := Fr.app N0 Nq2
  replace e2 := e2.trans Hq2
  refine OEnds.st (S' := T2.setTop (mkF m 26 #[vr a, vi (Int32.ofNat (6 + sg + d))] [(.int ((Int32.ofNat (6 + sg + d)) + (2 : Int32))), (.ref a)])) (fun _ k => ?_) ?_
  · refine XS.bipush X2.here hx rfl (hb hby d_5_17) ?_
    refine XS.icmpNo X2.here hx rfl (hb hby d_5_19) rfl (teq (by decide)).2 ?_
    refine XS.aloadN X2.here hx rfl (hb hby d_5_22) rfl rfl ?_
    refine XS.iloadN X2.here hx rfl (hb hby d_5_23) rfl ?_
    show Steps p.tables e below (T2.setTop (mkF m 24 #[vr a, vi (Int32.ofNat (6 + sg + d))] [(.int (Int32.ofNat (6 + sg + d))), (.ref a)])) _
    refine XS.iconst X2.here hx rfl (hb hby d_5_24) ?_
    refine XS.iadd X2.here hx rfl (hb hby d_5_25) rfl ?_
    exact k
  rw [show (Int32.ofNat (6 + sg + d)) + (2 : Int32) = Int32.ofNat (6 + sg + d + 2) from ofn_add (6 + sg + d) 2]
  obtain ⟨_, T3, h3, L3, X3, e3, hQ3, st3⟩ := virtC X2 hx hZ (y := (⟨"java/lang/String", "charAt", "(I)C"⟩ : MethodName)) (z := (⟨"java/lang/String", "charAt", "(I)C"⟩ : MethodName)) hown (wq hw 197 rfl) (wq hw 198 rfl) (nf_sel (args := #[]) (mvT hZ (wq hw 75 rfl)) rfl) (wq hw 200 rfl) (wq hw 199 rfl) (by decide) (kc := 0) (ks := 0) (Con.sb (W := 0) (rm_chAt l hD a (6 + sg + d + 2) t k (qs sg A d tp) (102 : Int32) O0 E_a F_coder_a F_value_a V_t hql (qs_of (j := 2) (by decide) rfl) ⟨by decide, by decide⟩) hZ (wq hw 201 rfl) (wq hw 3 rfl) (by decide) (by decide)) e2 E_a (g := (mkF m 26 #[vr a, vi (Int32.ofNat (6 + sg + d))] [(.int (Int32.ofNat (6 + sg + d + 2))), (.ref a)])) rfl (by rw [hml]; rfl) (argsL := [(.int (Int32.ofNat (6 + sg + d + 2)))]) (rest := []) (lenOf pd_26 rfl) rfl (by show 2 * 0 + _ ≤ _; exact Nat.le_of_eq rfl) (hb hby d_5_26) (by decide) (by decide)
  obtain ⟨rfl, Nq3, Hq3⟩ := hQ3
  refine OEnds.st st3 ?_
  replace N0 := Fr.app N0 Nq3
  replace e3 := e3.trans Hq3
  refine OEnds.st (S' := T3.setTop (mkF m 38 #[vr a, vi (Int32.ofNat (6 + sg + d))] [(.int ((Int32.ofNat (6 + sg + d)) + (3 : Int32))), (.ref a)])) (fun _ k => ?_) ?_
  · refine XS.bipush X3.here hx rfl (hb hby d_5_29) ?_
    refine XS.icmpNo X3.here hx rfl (hb hby d_5_31) rfl (teq (by decide)).2 ?_
    refine XS.aloadN X3.here hx rfl (hb hby d_5_34) rfl rfl ?_
    refine XS.iloadN X3.here hx rfl (hb hby d_5_35) rfl ?_
    show Steps p.tables e below (T3.setTop (mkF m 36 #[vr a, vi (Int32.ofNat (6 + sg + d))] [(.int (Int32.ofNat (6 + sg + d))), (.ref a)])) _
    refine XS.iconst X3.here hx rfl (hb hby d_5_36) ?_
    refine XS.iadd X3.here hx rfl (hb hby d_5_37) rfl ?_
    exact k
  rw [show (Int32.ofNat (6 + sg + d)) + (3 : Int32) = Int32.ofNat (6 + sg + d + 3) from ofn_add (6 + sg + d) 3]
  obtain ⟨_, T4, h4, L4, X4, e4, hQ4, st4⟩ := virtC X3 hx hZ (y := (⟨"java/lang/String", "charAt", "(I)C"⟩ : MethodName)) (z := (⟨"java/lang/String", "charAt", "(I)C"⟩ : MethodName)) hown (wq hw 197 rfl) (wq hw 198 rfl) (nf_sel (args := #[]) (mvT hZ (wq hw 75 rfl)) rfl) (wq hw 200 rfl) (wq hw 199 rfl) (by decide) (kc := 0) (ks := 0) (Con.sb (W := 0) (rm_chAt l hD a (6 + sg + d + 3) t k (qs sg A d tp) (32 : Int32) O0 E_a F_coder_a F_value_a V_t hql (qs_of (j := 3) (by decide) rfl) ⟨by decide, by decide⟩) hZ (wq hw 201 rfl) (wq hw 3 rfl) (by decide) (by decide)) e3 E_a (g := (mkF m 38 #[vr a, vi (Int32.ofNat (6 + sg + d))] [(.int (Int32.ofNat (6 + sg + d + 3))), (.ref a)])) rfl (by rw [hml]; rfl) (argsL := [(.int (Int32.ofNat (6 + sg + d + 3)))]) (rest := []) (lenOf pd_26 rfl) rfl (by show 2 * 0 + _ ≤ _; exact Nat.le_of_eq rfl) (hb hby d_5_38) (by decide) (by decide)
  obtain ⟨rfl, Nq4, Hq4⟩ := hQ4
  refine OEnds.st st4 ?_
  replace N0 := Fr.app N0 Nq4
  replace e4 := e4.trans Hq4
  refine OEnds.st (S' := T4.setTop (mkF m 50 #[vr a, vi (Int32.ofNat (6 + sg + d))] [(.int ((Int32.ofNat (6 + sg + d)) + (4 : Int32))), (.ref a)])) (fun _ k => ?_) ?_
  · refine XS.bipush X4.here hx rfl (hb hby d_5_41) ?_
    refine XS.icmpNo X4.here hx rfl (hb hby d_5_43) rfl (teq (by decide)).2 ?_
    refine XS.aloadN X4.here hx rfl (hb hby d_5_46) rfl rfl ?_
    refine XS.iloadN X4.here hx rfl (hb hby d_5_47) rfl ?_
    show Steps p.tables e below (T4.setTop (mkF m 48 #[vr a, vi (Int32.ofNat (6 + sg + d))] [(.int (Int32.ofNat (6 + sg + d))), (.ref a)])) _
    refine XS.iconst X4.here hx rfl (hb hby d_5_48) ?_
    refine XS.iadd X4.here hx rfl (hb hby d_5_49) rfl ?_
    exact k
  rw [show (Int32.ofNat (6 + sg + d)) + (4 : Int32) = Int32.ofNat (6 + sg + d + 4) from ofn_add (6 + sg + d) 4]
  obtain ⟨_, T5, h5, L5, X5, e5, hQ5, st5⟩ := virtC X4 hx hZ (y := (⟨"java/lang/String", "charAt", "(I)C"⟩ : MethodName)) (z := (⟨"java/lang/String", "charAt", "(I)C"⟩ : MethodName)) hown (wq hw 197 rfl) (wq hw 198 rfl) (nf_sel (args := #[]) (mvT hZ (wq hw 75 rfl)) rfl) (wq hw 200 rfl) (wq hw 199 rfl) (by decide) (kc := 0) (ks := 0) (Con.sb (W := 0) (rm_chAt l hD a (6 + sg + d + 4) t k (qs sg A d tp) (116 : Int32) O0 E_a F_coder_a F_value_a V_t hql (qs_of (j := 4) (by decide) rfl) ⟨by decide, by decide⟩) hZ (wq hw 201 rfl) (wq hw 3 rfl) (by decide) (by decide)) e4 E_a (g := (mkF m 50 #[vr a, vi (Int32.ofNat (6 + sg + d))] [(.int (Int32.ofNat (6 + sg + d + 4))), (.ref a)])) rfl (by rw [hml]; rfl) (argsL := [(.int (Int32.ofNat (6 + sg + d + 4)))]) (rest := []) (lenOf pd_26 rfl) rfl (by show 2 * 0 + _ ≤ _; exact Nat.le_of_eq rfl) (hb hby d_5_50) (by decide) (by decide)
  obtain ⟨rfl, Nq5, Hq5⟩ := hQ5
  refine OEnds.st st5 ?_
  replace N0 := Fr.app N0 Nq5
  replace e5 := e5.trans Hq5
  refine OEnds.st (S' := T5.setTop (mkF m 62 #[vr a, vi (Int32.ofNat (6 + sg + d))] [(.int ((Int32.ofNat (6 + sg + d)) + (5 : Int32))), (.ref a)])) (fun _ k => ?_) ?_
  · refine XS.bipush X5.here hx rfl (hb hby d_5_53) ?_
    refine XS.icmpNo X5.here hx rfl (hb hby d_5_55) rfl (teq (by decide)).2 ?_
    refine XS.aloadN X5.here hx rfl (hb hby d_5_58) rfl rfl ?_
    refine XS.iloadN X5.here hx rfl (hb hby d_5_59) rfl ?_
    show Steps p.tables e below (T5.setTop (mkF m 60 #[vr a, vi (Int32.ofNat (6 + sg + d))] [(.int (Int32.ofNat (6 + sg + d))), (.ref a)])) _
    refine XS.iconst X5.here hx rfl (hb hby d_5_60) ?_
    refine XS.iadd X5.here hx rfl (hb hby d_5_61) rfl ?_
    exact k
  rw [show (Int32.ofNat (6 + sg + d)) + (5 : Int32) = Int32.ofNat (6 + sg + d + 5) from ofn_add (6 + sg + d) 5]
  obtain ⟨_, T6, h6, L6, X6, e6, hQ6, st6⟩ := virtC X5 hx hZ (y := (⟨"java/lang/String", "charAt", "(I)C"⟩ : MethodName)) (z := (⟨"java/lang/String", "charAt", "(I)C"⟩ : MethodName)) hown (wq hw 197 rfl) (wq hw 198 rfl) (nf_sel (args := #[]) (mvT hZ (wq hw 75 rfl)) rfl) (wq hw 200 rfl) (wq hw 199 rfl) (by decide) (kc := 0) (ks := 0) (Con.sb (W := 0) (rm_chAt l hD a (6 + sg + d + 5) t k (qs sg A d tp) (111 : Int32) O0 E_a F_coder_a F_value_a V_t hql (qs_of (j := 5) (by decide) rfl) ⟨by decide, by decide⟩) hZ (wq hw 201 rfl) (wq hw 3 rfl) (by decide) (by decide)) e5 E_a (g := (mkF m 62 #[vr a, vi (Int32.ofNat (6 + sg + d))] [(.int (Int32.ofNat (6 + sg + d + 5))), (.ref a)])) rfl (by rw [hml]; rfl) (argsL := [(.int (Int32.ofNat (6 + sg + d + 5)))]) (rest := []) (lenOf pd_26 rfl) rfl (by show 2 * 0 + _ ≤ _; exact Nat.le_of_eq rfl) (hb hby d_5_62) (by decide) (by decide)
  obtain ⟨rfl, Nq6, Hq6⟩ := hQ6
  refine OEnds.st st6 ?_
  replace N0 := Fr.app N0 Nq6
  replace e6 := e6.trans Hq6
  refine OEnds.st (S' := T6.setTop (mkF m 75 #[vr a, vi (Int32.ofNat (6 + sg + d))] [(.int ((Int32.ofNat (6 + sg + d)) + (6 : Int32))), (.ref a)])) (fun _ k => ?_) ?_
  · refine XS.bipush X6.here hx rfl (hb hby d_5_65) ?_
    refine XS.icmpNo X6.here hx rfl (hb hby d_5_67) rfl (teq (by decide)).2 ?_
    refine XS.aloadN X6.here hx rfl (hb hby d_5_70) rfl rfl ?_
    refine XS.iloadN X6.here hx rfl (hb hby d_5_71) rfl ?_
    show Steps p.tables e below (T6.setTop (mkF m 72 #[vr a, vi (Int32.ofNat (6 + sg + d))] [(.int (Int32.ofNat (6 + sg + d))), (.ref a)])) _
    refine XS.bipush X6.here hx rfl (hb hby d_5_72) ?_
    refine XS.iadd X6.here hx rfl (hb hby d_5_74) rfl ?_
    exact k
  rw [show (Int32.ofNat (6 + sg + d)) + (6 : Int32) = Int32.ofNat (6 + sg + d + 6) from ofn_add (6 + sg + d) 6]
  obtain ⟨_, T7, h7, L7, X7, e7, hQ7, st7⟩ := virtC X6 hx hZ (y := (⟨"java/lang/String", "charAt", "(I)C"⟩ : MethodName)) (z := (⟨"java/lang/String", "charAt", "(I)C"⟩ : MethodName)) hown (wq hw 197 rfl) (wq hw 198 rfl) (nf_sel (args := #[]) (mvT hZ (wq hw 75 rfl)) rfl) (wq hw 200 rfl) (wq hw 199 rfl) (by decide) (kc := 0) (ks := 0) (Con.sb (W := 0) (rm_chAt l hD a (6 + sg + d + 6) t k (qs sg A d tp) (112 : Int32) O0 E_a F_coder_a F_value_a V_t hql (qs_of (j := 6) (by decide) rfl) ⟨by decide, by decide⟩) hZ (wq hw 201 rfl) (wq hw 3 rfl) (by decide) (by decide)) e6 E_a (g := (mkF m 75 #[vr a, vi (Int32.ofNat (6 + sg + d))] [(.int (Int32.ofNat (6 + sg + d + 6))), (.ref a)])) rfl (by rw [hml]; rfl) (argsL := [(.int (Int32.ofNat (6 + sg + d + 6)))]) (rest := []) (lenOf pd_26 rfl) rfl (by show 2 * 0 + _ ≤ _; exact Nat.le_of_eq rfl) (hb hby d_5_75) (by decide) (by decide)
  obtain ⟨rfl, Nq7, Hq7⟩ := hQ7
  refine OEnds.st st7 ?_
  replace N0 := Fr.app N0 Nq7
  replace e7 := e7.trans Hq7
  refine OEnds.st (S' := T7.setTop (mkF m 88 #[vr a, vi (Int32.ofNat (6 + sg + d))] [(.int ((Int32.ofNat (6 + sg + d)) + (7 : Int32))), (.ref a)])) (fun _ k => ?_) ?_
  · refine XS.bipush X7.here hx rfl (hb hby d_5_78) ?_
    refine XS.icmpNo X7.here hx rfl (hb hby d_5_80) rfl (teq (by decide)).2 ?_
    refine XS.aloadN X7.here hx rfl (hb hby d_5_83) rfl rfl ?_
    refine XS.iloadN X7.here hx rfl (hb hby d_5_84) rfl ?_
    show Steps p.tables e below (T7.setTop (mkF m 85 #[vr a, vi (Int32.ofNat (6 + sg + d))] [(.int (Int32.ofNat (6 + sg + d))), (.ref a)])) _
    refine XS.bipush X7.here hx rfl (hb hby d_5_85) ?_
    refine XS.iadd X7.here hx rfl (hb hby d_5_87) rfl ?_
    exact k
  rw [show (Int32.ofNat (6 + sg + d)) + (7 : Int32) = Int32.ofNat (6 + sg + d + 7) from ofn_add (6 + sg + d) 7]
  obtain ⟨_, T8, h8, L8, X8, e8, hQ8, st8⟩ := virtC X7 hx hZ (y := (⟨"java/lang/String", "charAt", "(I)C"⟩ : MethodName)) (z := (⟨"java/lang/String", "charAt", "(I)C"⟩ : MethodName)) hown (wq hw 197 rfl) (wq hw 198 rfl) (nf_sel (args := #[]) (mvT hZ (wq hw 75 rfl)) rfl) (wq hw 200 rfl) (wq hw 199 rfl) (by decide) (kc := 0) (ks := 0) (Con.sb (W := 0) (rm_chAt l hD a (6 + sg + d + 7) t k (qs sg A d tp) (105 : Int32) O0 E_a F_coder_a F_value_a V_t hql (qs_of (j := 7) (by decide) rfl) ⟨by decide, by decide⟩) hZ (wq hw 201 rfl) (wq hw 3 rfl) (by decide) (by decide)) e7 E_a (g := (mkF m 88 #[vr a, vi (Int32.ofNat (6 + sg + d))] [(.int (Int32.ofNat (6 + sg + d + 7))), (.ref a)])) rfl (by rw [hml]; rfl) (argsL := [(.int (Int32.ofNat (6 + sg + d + 7)))]) (rest := []) (lenOf pd_26 rfl) rfl (by show 2 * 0 + _ ≤ _; exact Nat.le_of_eq rfl) (hb hby d_5_88) (by decide) (by decide)
  obtain ⟨rfl, Nq8, Hq8⟩ := hQ8
  refine OEnds.st st8 ?_
  replace N0 := Fr.app N0 Nq8
  replace e8 := e8.trans Hq8
  refine OEnds.st (S' := T8.setTop (mkF m 101 #[vr a, vi (Int32.ofNat (6 + sg + d))] [(.int ((Int32.ofNat (6 + sg + d)) + (8 : Int32))), (.ref a)])) (fun _ k => ?_) ?_
  · refine XS.bipush X8.here hx rfl (hb hby d_5_91) ?_
    refine XS.icmpNo X8.here hx rfl (hb hby d_5_93) rfl (teq (by decide)).2 ?_
    refine XS.aloadN X8.here hx rfl (hb hby d_5_96) rfl rfl ?_
    refine XS.iloadN X8.here hx rfl (hb hby d_5_97) rfl ?_
    show Steps p.tables e below (T8.setTop (mkF m 98 #[vr a, vi (Int32.ofNat (6 + sg + d))] [(.int (Int32.ofNat (6 + sg + d))), (.ref a)])) _
    refine XS.bipush X8.here hx rfl (hb hby d_5_98) ?_
    refine XS.iadd X8.here hx rfl (hb hby d_5_100) rfl ?_
    exact k
  rw [show (Int32.ofNat (6 + sg + d)) + (8 : Int32) = Int32.ofNat (6 + sg + d + 8) from ofn_add (6 + sg + d) 8]
  obtain ⟨_, T9, h9, L9, X9, e9, hQ9, st9⟩ := virtC X8 hx hZ (y := (⟨"java/lang/String", "charAt", "(I)C"⟩ : MethodName)) (z := (⟨"java/lang/String", "charAt", "(I)C"⟩ : MethodName)) hown (wq hw 197 rfl) (wq hw 198 rfl) (nf_sel (args := #[]) (mvT hZ (wq hw 75 rfl)) rfl) (wq hw 200 rfl) (wq hw 199 rfl) (by decide) (kc := 0) (ks := 0) (Con.sb (W := 0) (rm_chAt l hD a (6 + sg + d + 8) t k (qs sg A d tp) (99 : Int32) O0 E_a F_coder_a F_value_a V_t hql (qs_of (j := 8) (by decide) rfl) ⟨by decide, by decide⟩) hZ (wq hw 201 rfl) (wq hw 3 rfl) (by decide) (by decide)) e8 E_a (g := (mkF m 101 #[vr a, vi (Int32.ofNat (6 + sg + d))] [(.int (Int32.ofNat (6 + sg + d + 8))), (.ref a)])) rfl (by rw [hml]; rfl) (argsL := [(.int (Int32.ofNat (6 + sg + d + 8)))]) (rest := []) (lenOf pd_26 rfl) rfl (by show 2 * 0 + _ ≤ _; exact Nat.le_of_eq rfl) (hb hby d_5_101) (by decide) (by decide)
  obtain ⟨rfl, Nq9, Hq9⟩ := hQ9
  refine OEnds.st st9 ?_
  replace N0 := Fr.app N0 Nq9
  replace e9 := e9.trans Hq9
  refine OEnds.st (S' := T9.setTop (mkF m 114 #[vr a, vi (Int32.ofNat (6 + sg + d))] [(.int ((Int32.ofNat (6 + sg + d)) + (9 : Int32))), (.ref a)])) (fun _ k => ?_) ?_
  · refine XS.bipush X9.here hx rfl (hb hby d_5_104) ?_
    refine XS.icmpNo X9.here hx rfl (hb hby d_5_106) rfl (teq (by decide)).2 ?_
    refine XS.aloadN X9.here hx rfl (hb hby d_5_109) rfl rfl ?_
    refine XS.iloadN X9.here hx rfl (hb hby d_5_110) rfl ?_
    show Steps p.tables e below (T9.setTop (mkF m 111 #[vr a, vi (Int32.ofNat (6 + sg + d))] [(.int (Int32.ofNat (6 + sg + d))), (.ref a)])) _
    refine XS.bipush X9.here hx rfl (hb hby d_5_111) ?_
    refine XS.iadd X9.here hx rfl (hb hby d_5_113) rfl ?_
    exact k
  rw [show (Int32.ofNat (6 + sg + d)) + (9 : Int32) = Int32.ofNat (6 + sg + d + 9) from ofn_add (6 + sg + d) 9]
  obtain ⟨_, T10, h10, L10, X10, e10, hQ10, st10⟩ := virtC X9 hx hZ (y := (⟨"java/lang/String", "charAt", "(I)C"⟩ : MethodName)) (z := (⟨"java/lang/String", "charAt", "(I)C"⟩ : MethodName)) hown (wq hw 197 rfl) (wq hw 198 rfl) (nf_sel (args := #[]) (mvT hZ (wq hw 75 rfl)) rfl) (wq hw 200 rfl) (wq hw 199 rfl) (by decide) (kc := 0) (ks := 0) (Con.sb (W := 0) (rm_chAt l hD a (6 + sg + d + 9) t k (qs sg A d tp) (32 : Int32) O0 E_a F_coder_a F_value_a V_t hql (qs_of (j := 9) (by decide) rfl) ⟨by decide, by decide⟩) hZ (wq hw 201 rfl) (wq hw 3 rfl) (by decide) (by decide)) e9 E_a (g := (mkF m 114 #[vr a, vi (Int32.ofNat (6 + sg + d))] [(.int (Int32.ofNat (6 + sg + d + 9))), (.ref a)])) rfl (by rw [hml]; rfl) (argsL := [(.int (Int32.ofNat (6 + sg + d + 9)))]) (rest := []) (lenOf pd_26 rfl) rfl (by show 2 * 0 + _ ≤ _; exact Nat.le_of_eq rfl) (hb hby d_5_114) (by decide) (by decide)
  obtain ⟨rfl, Nq10, Hq10⟩ := hQ10
  refine OEnds.st st10 ?_
  replace N0 := Fr.app N0 Nq10
  replace e10 := e10.trans Hq10
  refine OEnds.st (S' := T10.setTop (mkF m 127 #[vr a, vi (Int32.ofNat (6 + sg + d))] [(.int 1)])) (fun _ k => ?_) ?_
  · refine XS.bipush X10.here hx rfl (hb hby d_5_117) ?_
    refine XS.icmpNo X10.here hx rfl (hb hby d_5_119) rfl (teq (by decide)).2 ?_
    refine XS.iconst X10.here hx rfl (hb hby d_5_122) ?_
    refine XS.goto X10.here hx rfl (pc0 := 123) (pc' := 127) rfl (hb hby d_5_123) (by decide) (by decide) ?_
    exact k
  exact OEnds.ret X10 hx hret hlk (by decide) (Or.inl ⟨rfl, by simp, _, rfl⟩) (hb hby d_5_127) (by decide) (by decide) (by rw [e10]; exact ⟨rfl, N0, rfl⟩)
-- java/lang/String.<init>:([CIILjava/lang/Void;)V
def Q_strE2 (Z : State) (a : Addr) (tc : Addr) (h0 : Heap) (v : Option Value) (h : Heap) (L : List Loc) : Prop := v = none ∧ Fr Z.heap.size L ∧ Keep h0 h [a] ∧ Exa Z h a "java/lang/String" ∧ Fld Z h a "java/lang/String" "coder" "B" (.int 0) ∧ ∃ (t : Addr) (kb : ClassId), Fld Z h a "java/lang/String" "value" "[B" (.ref t) ∧ Arv Z h t kb .byte (0 : Int32) [] (.int 0)
theorem ef_strE2 (m : MethodId) (a : Addr) (tc : Addr) : entryFrame m #[(.ref a), (.ref tc), (.int 0), (.int 0), .null] 6 = mkF m 0 #[vr a, vr tc, vi 0, vi 0, .val .null, .unset] [] := by first | (simp [entryFrame, mkF, argsToLocals, Value.category, vi, vj, vr]; done) | rfl
theorem d_jdk_42_149_0 : decode jdk_42_method_149_code 0 = .ok (.aload_n 0, 1) := by decide +kernel
theorem d_jdk_42_149_1 : decode jdk_42_method_149_code 1 = .ok (.invokespecial 1, 3) := by decide +kernel
theorem d_jdk_42_149_4 : decode jdk_42_method_149_code 4 = .ok (.iload_n 3, 1) := by decide +kernel
theorem d_jdk_42_149_5 : decode jdk_42_method_149_code 5 = .ok (.ifCond .ne 22, 3) := by decide +kernel
theorem d_jdk_42_149_8 : decode jdk_42_method_149_code 8 = .ok (.aload_n 0, 1) := by decide +kernel
theorem d_jdk_42_149_9 : decode jdk_42_method_149_code 9 = .ok (.ldc 7, 2) := by decide +kernel
theorem d_jdk_42_149_11 : decode jdk_42_method_149_code 11 = .ok (.getfield 9, 3) := by decide +kernel
theorem d_jdk_42_149_14 : decode jdk_42_method_149_code 14 = .ok (.putfield 9, 3) := by decide +kernel
theorem d_jdk_42_149_17 : decode jdk_42_method_149_code 17 = .ok (.aload_n 0, 1) := by decide +kernel
theorem d_jdk_42_149_18 : decode jdk_42_method_149_code 18 = .ok (.ldc 7, 2) := by decide +kernel
theorem d_jdk_42_149_20 : decode jdk_42_method_149_code 20 = .ok (.getfield 15, 3) := by decide +kernel
theorem d_jdk_42_149_23 : decode jdk_42_method_149_code 23 = .ok (.putfield 15, 3) := by decide +kernel
theorem d_jdk_42_149_26 : decode jdk_42_method_149_code 26 = .ok (.return_, 1) := by decide +kernel
set_option maxRecDepth 65536 in
set_option maxHeartbeats 40000000 in
theorem rm_strE2 (l : Launch) {Z : State} {a0 : Array Value} (hD : Wd Z a0) (a : Addr) (tc : Addr) {h0 : Heap} (O0 : Ext Z.heap h0) (E_a : Exa Z h0 a "java/lang/String") (F_value_a : Fld Z h0 a "java/lang/String" "value" "[B" .null) (F_coder_a : Fld Z h0 a "java/lang/String" "coder" "B" (.int 0)) (ge_a : Z.heap.size ≤ a) :
    ConH l Z EL (⟨"java/lang/String", "<init>", "([CIILjava/lang/Void;)V"⟩ : MethodName) jdk_42_method_149_code 6 none [] ({ frames := 1, cells := 4, slots := 8, locals := 12 } : Room) #[(.ref a), (.ref tc), (.int 0), (.int 0), .null] h0 [a] (Q_strE2 Z a tc h0) := by
  refine ConH.walk (plainFor_of_name pn_0) ?_
  intro p e s vm0 k0 m below meth c T0 X0 hS0 hk0 hx hZ hby hml hown hnm hret hlk e0 A0 hss
  obtain ⟨hw, ⟨cz, S_CS, hcz⟩, ⟨sf, S_SF, hsf⟩, ⟨d1, d2, kd1, kd2, S_D1, S_D2, V_D1, V_D2⟩⟩ := id hD
  have N0 := Fr.nil Z.heap.size
  have K0 : Keep h0 h0 [a] := Keep.refl _ _
  have S_a := hss a (List.mem_of_getElem? (i := 0) rfl)
  have hEL : EW Z a0 EL := el_of hw
  have hsa : ∀ a ∈ Bundle.stringAtoms, a.before a0 Z = true := fun d hd => hw d (words_sa d hd)
  refine OEndsH.cast (ef_strE2 m a tc) ?_
  refine OEndsH.st (S' := T0.setTop (mkF m 1 #[vr a, vr tc, vi 0, vi 0, .val .null, .unset] [(.ref a)])) (fun _ k => ?_) ?_
  · refine XS.aloadN X0.here hx rfl (hb hby d_jdk_42_149_0) rfl rfl ?_
    exact k
  obtain ⟨T1, X1, e1, st1⟩ := initO X0 hx hZ hown (wq hw 11 rfl) (wq hw 12 rfl) (wq hw 13 rfl) e0 (g := (mkF m 1 #[vr a, vr tc, vi 0, vi 0, .val .null, .unset] [(.ref a)])) rfl (by rw [hml]; rfl) rfl (hb hby d_jdk_42_149_1) (by decide) (W := 0) (by show 2 * 0 + _ ≤ _; exact Nat.le_of_eq rfl) (by decide)
  refine OEndsH.st st1 ?_
  refine OEndsH.st (S' := T1.setTop (mkF m 9 #[vr a, vr tc, vi 0, vi 0, .val .null, .unset] [(.ref a)])) (fun _ k => ?_) ?_
  · refine XS.iloadN X1.here hx rfl (hb hby d_jdk_42_149_4) rfl ?_
    refine XS.ifNo X1.here hx rfl (hb hby d_jdk_42_149_5) rfl ((if0 _ _).trans (teq (by decide)).2) ?_
    refine XS.aloadN X1.here hx rfl (hb hby d_jdk_42_149_8) rfl rfl ?_
    exact k
  obtain ⟨b2, T2, h2, k12, t2, kb2, X2, e2, E2, hS2, hk2, hZ2, hown2, Es2, Fc2, Fv2, V2, -, -, Aq2, -, nes2, st2⟩ := ldcCH X1 hx hZ hown (wq hw 14 rfl) hsa e1 hS0 hk0 hEL (List.mem_of_getElem? (i := 0) rfl) A0.1 (vs := []) (z := (0 : Int32)) ⟨by decide, by decide⟩ (by decide) rfl (g := (mkF m 9 #[vr a, vr tc, vi 0, vi 0, .val .null, .unset] [(.ref a)])) rfl (hb hby d_jdk_42_149_9) (n := 0) (by decide) (by decide) (by decide) (by decide)
  replace hZ2 : Z.Warmed39 T2.vm := hZ2
  replace hown2 : T2.vm.findClass "java/lang/String" = some m.cls := hown2
  replace S_a : Safe Z EL T2.vm h2 a := Aq2.safe E_a.lt S_a
  replace A0 : CHr Z EL s.vm s.heap T2.vm h2 := A0.trans Aq2
  refine OEndsH.st st2 ?_
  have ne_a_b2 : a ≠ b2 := (nes2 a S_a).1
  have ne_a_t2 : a ≠ t2 := (nes2 a S_a).2
  replace E_a := E_a.ext E2
  replace F_value_a := F_value_a.ext E2
  replace F_coder_a := F_coder_a.ext E2
  replace O0 : Ext Z.heap h2 := ext_trans O0 E2
  replace K0 : Keep h0 h2 [a] := K0.ext E2
  obtain ⟨T3, X3, e3, st3⟩ := getF X2 hx hZ2 hown2 (host := "") (Or.inl (wq hw 20 rfl)) Via.refl e2 Fv2 (g := (mkF m 11 #[vr a, vr tc, vi 0, vi 0, .val .null, .unset] [(.ref b2), (.ref a)])) rfl rfl (hb hby d_jdk_42_149_11)
  refine OEndsH.st st3 ?_
  obtain ⟨T4, h4, X4, e4, W4, st4⟩ := putF X3 hx hZ2 hown2 (host := "") (Or.inl (wq hw 20 rfl)) Via.refl e3 F_value_a E_a (Or.inr ⟨(wq hw 16 rfl), rfl, hnm⟩) (wq hw 2 rfl) (ty := (.array .byte)) (by decide) rfl rfl (g := (mkF m 14 #[vr a, vr tc, vi 0, vi 0, .val .null, .unset] [(.ref t2), (.ref a)])) rfl rfl (hb hby d_jdk_42_149_14)
  refine OEndsH.st st4 ?_
  replace E_a := E_a.wr W4
  replace F_value_a := F_value_a.same W4
  replace F_coder_a := F_coder_a.other W4 (Or.inr (slot_ne (Or.inr (wq hw 17 rfl)) (Or.inr (wq hw 16 rfl)) (by decide) (t := .byte) (t' := (.array .byte)) (by decide) (by decide)))
  replace Es2 := Es2.wr W4
  replace Fc2 := Fc2.other W4 (Or.inl (Ne.symm ne_a_b2))
  replace Fv2 := Fv2.other W4 (Or.inl (Ne.symm ne_a_b2))
  replace V2 := V2.other W4 (Ne.symm ne_a_t2)
  have S_a' : Safe Z EL T2.vm h4 a := Safe.wr W4 S_a A0.1 S_a
  have A' : CHr Z EL s.vm s.heap T2.vm h4 := A0.trans (CHr.wr W4 S_a A0.1)
  replace S_a := S_a'
  replace A0 := A'
  replace hk2 := Nat.le_trans hk2 (Keep.of_wr W4).1
  replace O0 : Ext Z.heap h4 := ext_wr O0 W4 ge_a
  replace N0 := Fr.snoc X4 N0 ge_a
  replace K0 : Keep h0 h4 [a] := K0.wr W4 (Or.inl (List.mem_of_getElem? (i := 0) rfl))
  refine OEndsH.st (S' := T4.setTop (mkF m 18 #[vr a, vr tc, vi 0, vi 0, .val .null, .unset] [(.ref a)])) (fun _ k => ?_) ?_
  · refine XS.aloadN X4.here hx rfl (hb hby d_jdk_42_149_17) rfl rfl ?_
    exact k
  obtain ⟨b5, T5, h5, k15, t5, kb5, X5, e5, E5, hS5, hk5, hZ5, hown5, Es5, Fc5, Fv5, V5, -, -, Aq5, -, nes5, st5⟩ := ldcCH X4 hx hZ2 hown2 (wq hw 14 rfl) hsa e4 hS2 hk2 hEL (List.mem_of_getElem? (i := 0) rfl) A0.1 (vs := []) (z := (0 : Int32)) ⟨by decide, by decide⟩ (by decide) rfl (g := (mkF m 18 #[vr a, vr tc, vi 0, vi 0, .val .null, .unset] [(.ref a)])) rfl (hb hby d_jdk_42_149_18) (n := 0) (by decide) (by decide) (by decide) (by decide)
  replace hZ5 : Z.Warmed39 T5.vm := hZ5
  replace hown5 : T5.vm.findClass "java/lang/String" = some m.cls := hown5
  replace S_a : Safe Z EL T5.vm h5 a := Aq5.safe E_a.lt S_a
  replace A0 : CHr Z EL s.vm s.heap T5.vm h5 := A0.trans Aq5
  refine OEndsH.st st5 ?_
  have ne_a_b5 : a ≠ b5 := (nes5 a S_a).1
  have ne_a_t5 : a ≠ t5 := (nes5 a S_a).2
  replace E_a := E_a.ext E5
  replace F_value_a := F_value_a.ext E5
  replace F_coder_a := F_coder_a.ext E5
  replace Es2 := Es2.ext E5
  replace Fc2 := Fc2.ext E5
  replace Fv2 := Fv2.ext E5
  replace V2 := V2.ext E5
  replace O0 : Ext Z.heap h5 := ext_trans O0 E5
  replace K0 : Keep h0 h5 [a] := K0.ext E5
  obtain ⟨T6, X6, e6, st6⟩ := getF X5 hx hZ5 hown5 (host := "") (Or.inl (wq hw 21 rfl)) Via.refl e5 Fc5 (g := (mkF m 20 #[vr a, vr tc, vi 0, vi 0, .val .null, .unset] [(.ref b5), (.ref a)])) rfl rfl (hb hby d_jdk_42_149_20)
  refine OEndsH.st st6 ?_
  obtain ⟨T7, h7, X7, e7, W7, st7⟩ := putF X6 hx hZ5 hown5 (host := "") (Or.inl (wq hw 21 rfl)) Via.refl e6 F_coder_a E_a (Or.inr ⟨(wq hw 17 rfl), rfl, hnm⟩) (wq hw 2 rfl) (ty := .byte) (by decide) rfl rfl (g := (mkF m 23 #[vr a, vr tc, vi 0, vi 0, .val .null, .unset] [(.int 0), (.ref a)])) rfl rfl (hb hby d_jdk_42_149_23)
  refine OEndsH.st st7 ?_
  replace E_a := E_a.wr W7
  replace F_value_a := F_value_a.other W7 (Or.inr (slot_ne (Or.inr (wq hw 16 rfl)) (Or.inr (wq hw 17 rfl)) (by decide) (t := (.array .byte)) (t' := .byte) (by decide) (by decide)))
  replace F_coder_a := F_coder_a.same W7
  replace Es2 := Es2.wr W7
  replace Fc2 := Fc2.other W7 (Or.inl (Ne.symm ne_a_b2))
  replace Fv2 := Fv2.other W7 (Or.inl (Ne.symm ne_a_b2))
  replace V2 := V2.other W7 (Ne.symm ne_a_t2)
  replace Es5 := Es5.wr W7
  replace Fc5 := Fc5.other W7 (Or.inl (Ne.symm ne_a_b5))
  replace Fv5 := Fv5.other W7 (Or.inl (Ne.symm ne_a_b5))
  replace V5 := V5.other W7 (Ne.symm ne_a_t5)
  have S_a' : Safe Z EL T5.vm h7 a := Safe.wr W7 S_a A0.1 S_a
  have A' : CHr Z EL s.vm s.heap T5.vm h7 := A0.trans (CHr.wr W7 S_a A0.1)
  replace S_a := S_a'
  replace A0 := A'
  replace hk5 := Nat.le_trans hk5 (Keep.of_wr W7).1
  replace O0 : Ext Z.heap h7 := ext_wr O0 W7 ge_a
  replace N0 := Fr.snoc X7 N0 ge_a
  replace K0 : Keep h0 h7 [a] := K0.wr W7 (Or.inl (List.mem_of_getElem? (i := 0) rfl))
  exact OEndsH.retV X7 hx hZ5 hEL e7 hS5 hk5 A0 hret hlk (hb hby d_jdk_42_149_26) (by decide) (by decide) ⟨rfl, N0, K0, E_a, F_coder_a, t2, _, F_value_a, V2⟩
-- java/lang/String.<init>:([C)V
def Q_strE1 (Z : State) (a : Addr) (tc : Addr) (k : ClassId) (h0 : Heap) (v : Option Value) (h : Heap) (L : List Loc) : Prop := v = none ∧ Fr Z.heap.size L ∧ Keep h0 h [a] ∧ Exa Z h a "java/lang/String" ∧ Fld Z h a "java/lang/String" "coder" "B" (.int 0) ∧ ∃ (t : Addr) (kb : ClassId), Fld Z h a "java/lang/String" "value" "[B" (.ref t) ∧ Arv Z h t kb .byte (0 : Int32) [] (.int 0)
theorem ef_strE1 (m : MethodId) (a : Addr) (tc : Addr) : entryFrame m #[(.ref a), (.ref tc)] 2 = mkF m 0 #[vr a, vr tc] [] := by first | (simp [entryFrame, mkF, argsToLocals, Value.category, vi, vj, vr]; done) | rfl
theorem d_jdk_42_3_0 : decode jdk_42_method_3_code 0 = .ok (.aload_n 0, 1) := by decide +kernel
theorem d_jdk_42_3_1 : decode jdk_42_method_3_code 1 = .ok (.aload_n 1, 1) := by decide +kernel
theorem d_jdk_42_3_2 : decode jdk_42_method_3_code 2 = .ok (.iconst 0, 1) := by decide +kernel
theorem d_jdk_42_3_3 : decode jdk_42_method_3_code 3 = .ok (.aload_n 1, 1) := by decide +kernel
theorem d_jdk_42_3_4 : decode jdk_42_method_3_code 4 = .ok (.arraylength, 1) := by decide +kernel
theorem d_jdk_42_3_5 : decode jdk_42_method_3_code 5 = .ok (.aconst_null, 1) := by decide +kernel
theorem d_jdk_42_3_6 : decode jdk_42_method_3_code 6 = .ok (.invokespecial 27, 3) := by decide +kernel
theorem pd_27 : parseMethodDescriptor "([CIILjava/lang/Void;)V" = some ⟨[(.array .char), .int, .int, (.object "java/lang/Void")], none⟩ := by decide +kernel
theorem d_jdk_42_3_9 : decode jdk_42_method_3_code 9 = .ok (.return_, 1) := by decide +kernel
set_option maxRecDepth 65536 in
set_option maxHeartbeats 40000000 in
theorem rm_strE1 (l : Launch) {Z : State} {a0 : Array Value} (hD : Wd Z a0) (a : Addr) (tc : Addr) (k : ClassId) {h0 : Heap} (O0 : Ext Z.heap h0) (E_a : Exa Z h0 a "java/lang/String") (F_value_a : Fld Z h0 a "java/lang/String" "value" "[B" .null) (F_coder_a : Fld Z h0 a "java/lang/String" "coder" "B" (.int 0)) (ge_a : Z.heap.size ≤ a) (V_tc : Arv Z h0 tc k .char (0 : Int32) [] (.int 0)) :
    ConH l Z EL (⟨"java/lang/String", "<init>", "([C)V"⟩ : MethodName) jdk_42_method_3_code 2 none [] ({ frames := 2, cells := 4, slots := 8, locals := 29 } : Room) #[(.ref a), (.ref tc)] h0 [a] (Q_strE1 Z a tc k h0) := by
  refine ConH.walk (plainFor_of_name pn_0) ?_
  intro p e s vm0 k0 m below meth c T0 X0 hS0 hk0 hx hZ hby hml hown hnm hret hlk e0 A0 hss
  obtain ⟨hw, ⟨cz, S_CS, hcz⟩, ⟨sf, S_SF, hsf⟩, ⟨d1, d2, kd1, kd2, S_D1, S_D2, V_D1, V_D2⟩⟩ := id hD
  have N0 := Fr.nil Z.heap.size
  have K0 : Keep h0 h0 [a] := Keep.refl _ _
  have S_a := hss a (List.mem_of_getElem? (i := 0) rfl)
  have hEL : EW Z a0 EL := el_of hw
  have hsa : ∀ a ∈ Bundle.stringAtoms, a.before a0 Z = true := fun d hd => hw d (words_sa d hd)
  refine OEndsH.cast (ef_strE1 m a tc) ?_
  refine OEndsH.st (S' := T0.setTop (mkF m 4 #[vr a, vr tc] [(.ref tc), (.int 0), (.ref tc), (.ref a)])) (fun _ k => ?_) ?_
  · refine XS.aloadN X0.here hx rfl (hb hby d_jdk_42_3_0) rfl rfl ?_
    refine XS.aloadN X0.here hx rfl (hb hby d_jdk_42_3_1) rfl rfl ?_
    refine XS.iconst X0.here hx rfl (hb hby d_jdk_42_3_2) ?_
    refine XS.aloadN X0.here hx rfl (hb hby d_jdk_42_3_3) rfl rfl ?_
    exact k
  obtain ⟨cl_tc_1, Ar_tc_1, q_tc_1, S_tc_1, N_tc_1, H_tc_1, G_tc_1⟩ := id V_tc
  refine OEndsH.st (S' := T0.setTop (mkF m 5 #[vr a, vr tc] [(.int 0), (.int 0), (.ref tc), (.ref a)])) (fun tg kq9 => X0.arraylength hx (by rw [e0]; exact Ar_tc_1.1) (State.isArrayOf_alike hZ.alike Ar_tc_1.2.1) (g := (mkF m 4 #[vr a, vr tc] [(.ref tc), (.int 0), (.ref tc), (.ref a)])) rfl rfl (hb hby d_jdk_42_3_4) tg (by rw [len_of S_tc_1 N_tc_1]; exact kq9)) ?_
  refine OEndsH.st (S' := T0.setTop (mkF m 6 #[vr a, vr tc] [.null, (.int 0), (.int 0), (.ref tc), (.ref a)])) (fun _ k => ?_) ?_
  · refine XS.aconstNull X0.here hx rfl (hb hby d_jdk_42_3_5) ?_
    exact k
  obtain ⟨_, T2, h2, L2, vm2, k12, X2, e2, hQ2, hS2, hk2, hZ2, hown2, Aq2, st2⟩ := specH X0 hx hZ rfl hown (wq hw 7 rfl) (wq hw 8 rfl) (wq hw 10 rfl) (by decide) (kc := 4) (ks := 8) (ConH.sb (W := 0) (rm_strE2 l hD a tc O0 E_a F_value_a F_coder_a ge_a) hZ (wq hw 10 rfl) (wq hw 3 rfl) (by decide) (by decide) hEL A0.1 (allS ⟨E_a.lt, S_a⟩ all0)) e0 hS0 hk0 (a := a) (g := (mkF m 6 #[vr a, vr tc] [.null, (.int 0), (.int 0), (.ref tc), (.ref a)])) rfl (by rw [hml]; rfl) (argsL := [(.ref tc), (.int 0), (.int 0), .null]) (rest := []) (lenOf pd_27 rfl) rfl (by show 2 * 0 + _ ≤ _; exact Nat.le_of_eq rfl) (hb hby d_jdk_42_3_6) (by decide) (by decide)
  obtain ⟨rfl, Nq2, Kq2, Eq2, Fc2, tq2, kq2, Fv2, V2⟩ := hQ2
  replace S_a : Safe Z EL vm2 h2 a := Aq2.safe E_a.lt S_a
  replace A0 : CHr Z EL s.vm s.heap vm2 h2 := A0.trans Aq2
  refine OEndsH.st st2 ?_
  replace N0 := Fr.app N0 Nq2
  have ne_tc_a : tc ≠ a := Ne.symm (ne_arv E_a (wq hw 2 rfl) V_tc)
  replace E_a := E_a.keep Kq2
  replace V_tc := V_tc.keep Kq2 (ninS ne_tc_a nin0)
  replace O0 : Ext Z.heap h2 := ext_keep O0 Kq2 (allS ge_a all0)
  replace K0 : Keep h0 h2 [a] := K0.trans Kq2 (allS (Or.inl (List.mem_of_getElem? (i := 0) rfl)) all0)
  exact OEndsH.retV X2 hx hZ2 hEL e2 hS2 hk2 A0 hret hlk (hb hby d_jdk_42_3_9) (by decide) (by decide) ⟨rfl, N0, K0, E_a, Fc2, tq2, _, Fv2, V2⟩
theorem digO_arv {s : State} {args : Array Value} {t : Term} {a : Addr} (hev : ∀ idx, t.eval args s none idx s = some (.ref a)) (hx : (Cond.exactly t "[B").before args s = true) (wa : (Cond.arrayClass .byte).before args s = true) (hl : (Cond.eq (Term.length t) (Term.int (100 : Int32))).before args s = true)
    (hal : (Cond.all t (Cond.eq (Term.elem t (Term.index 0)) (Term.add (Term.int (48 : Int32)) (Term.rem (Term.index 0) (Term.int (10 : Int32)))))).before args s = true) : ∃ k, Arv s s.heap a k .byte (100 : Int32) digO (.int 0) := by
  obtain ⟨d, cB, D, kB, hev0, hfcB, hcellD, hkB, hstatD, hclsD, -⟩ := Cond.exactly_spec hx
  cases (hev []).symm.trans hev0
  have hl' := Cond.eq_int hl rfl
  obtain ⟨d', D', hev', harrAt, -⟩ := Term.length_spec hl'
  cases (hev []).symm.trans hev'
  obtain ⟨hcellD', hknD, -, -⟩ := State.arrayAt?_spec harrAt
  cases hcellD.symm.trans hcellD'
  have h31 := SBG.length_lt (hev []) harrAt hl'
  have e : (Term.length t).eval args s none [] s = some (.int D.slots.size.toInt32) := len_f (hev []) harrAt h31
  have e2 : Int32.ofNat D.slots.size = Int32.ofNat 100 := by have := Option.some.inj (e.symm.trans hl'); simpa using this
  have hsz : D.slots.size = 100 := by
    have := congrArg Int32.toInt e2
    rw [ofn_toInt h31, ofn_toInt (by omega)] at this; omega
  obtain ⟨cB', kB', comp, hnameB, hkB', hkindB⟩ := Cond.arrayClass_spec wa
  rw [show ("[" ++ FieldType.toString .byte) = "[B" by decide] at hnameB
  cases hfcB.symm.trans hnameB
  cases hkB.symm.trans hkB'
  have A : Arr s s.heap a D .byte := ⟨hcellD, ⟨(fun q h => by rw [h] at hstatD; cases hstatD), kB, (by rw [hclsD]; exact hkB), comp, hkindB⟩, hknD⟩
  have key : ∀ k, k < 100 → D.slots[k]? = some (.int (Int32.ofNat (48 + k % 10))) := fun k hk => by
    have h := Cond.all_elim (hev []) harrAt (Cond.before_iff.mp hal) k (by omega)
    have eL : (Term.elem t (.index 0)).eval args s none [k] s = D.slots[k]? := SBG.elem_at (ix := .index 0) (hev [k]) harrAt (by omega) (by omega) rfl
    have hr : (Term.add (Term.int (48 : Int32)) (Term.rem (Term.index 0) (Term.int (10 : Int32)))).eval args s none [k] s = some (.int ((48 : Int32) + Int32.ofNat k % 10)) := rfl
    rw [← SBG.ones_num k hk]
    cases hv : D.slots[k]? with
    | none => rw [hv] at eL; simp [Cond.value, eL] at h
    | some v =>
      rw [hv] at eL
      cases v with
      | int z => rw [Cond.eq_ints eL hr] at h; rw [of_decide_eq_true (Option.some.inj h)]
      | _ => simp [Cond.value, eL, hr] at h
  have dat : ∀ k, k < 100 → digO.getD k (.int 0) = .int (Int32.ofNat (48 + k % 10)) := fun k hk => by simp [digO, List.getD_eq_getElem?_getD, hk]
  refine ⟨D.cls, D, A, rfl, by rw [hsz]; rfl, by decide, fun k hk => ?_, fun i hi => ?_⟩
  · rw [dat k (by omega)]; exact key k (by omega)
  · rw [dat i (by omega)]
    exact (by decide : ∀ k : Fin 100, fits .byte (.int (Int32.ofNat (48 + k.1 % 10))) = true) ⟨i, by omega⟩
theorem digT_arv {s : State} {args : Array Value} {t : Term} {a : Addr} (hev : ∀ idx, t.eval args s none idx s = some (.ref a)) (hx : (Cond.exactly t "[B").before args s = true) (wa : (Cond.arrayClass .byte).before args s = true) (hl : (Cond.eq (Term.length t) (Term.int (100 : Int32))).before args s = true)
    (hal : (Cond.all t (Cond.eq (Term.elem t (Term.index 0)) (Term.add (Term.int (48 : Int32)) (Term.div (Term.index 0) (Term.int (10 : Int32)))))).before args s = true) : ∃ k, Arv s s.heap a k .byte (100 : Int32) digT (.int 0) := by
  obtain ⟨d, cB, D, kB, hev0, hfcB, hcellD, hkB, hstatD, hclsD, -⟩ := Cond.exactly_spec hx
  cases (hev []).symm.trans hev0
  have hl' := Cond.eq_int hl rfl
  obtain ⟨d', D', hev', harrAt, -⟩ := Term.length_spec hl'
  cases (hev []).symm.trans hev'
  obtain ⟨hcellD', hknD, -, -⟩ := State.arrayAt?_spec harrAt
  cases hcellD.symm.trans hcellD'
  have h31 := SBG.length_lt (hev []) harrAt hl'
  have e : (Term.length t).eval args s none [] s = some (.int D.slots.size.toInt32) := len_f (hev []) harrAt h31
  have e2 : Int32.ofNat D.slots.size = Int32.ofNat 100 := by have := Option.some.inj (e.symm.trans hl'); simpa using this
  have hsz : D.slots.size = 100 := by
    have := congrArg Int32.toInt e2
    rw [ofn_toInt h31, ofn_toInt (by omega)] at this; omega
  obtain ⟨cB', kB', comp, hnameB, hkB', hkindB⟩ := Cond.arrayClass_spec wa
  rw [show ("[" ++ FieldType.toString .byte) = "[B" by decide] at hnameB
  cases hfcB.symm.trans hnameB
  cases hkB.symm.trans hkB'
  have A : Arr s s.heap a D .byte := ⟨hcellD, ⟨(fun q h => by rw [h] at hstatD; cases hstatD), kB, (by rw [hclsD]; exact hkB), comp, hkindB⟩, hknD⟩
  have key : ∀ k, k < 100 → D.slots[k]? = some (.int (Int32.ofNat (48 + k / 10))) := fun k hk => by
    have h := Cond.all_elim (hev []) harrAt (Cond.before_iff.mp hal) k (by omega)
    have eL : (Term.elem t (.index 0)).eval args s none [k] s = D.slots[k]? := SBG.elem_at (ix := .index 0) (hev [k]) harrAt (by omega) (by omega) rfl
    have hr : (Term.add (Term.int (48 : Int32)) (Term.div (Term.index 0) (Term.int (10 : Int32)))).eval args s none [k] s = some (.int ((48 : Int32) + Int32.ofNat k / 10)) := rfl
    rw [← SBG.tens_num k hk]
    cases hv : D.slots[k]? with
    | none => rw [hv] at eL; simp [Cond.value, eL] at h
    | some v =>
      rw [hv] at eL
      cases v with
      | int z => rw [Cond.eq_ints eL hr] at h; rw [of_decide_eq_true (Option.some.inj h)]
      | _ => simp [Cond.value, eL, hr] at h
  have dat : ∀ k, k < 100 → digT.getD k (.int 0) = .int (Int32.ofNat (48 + k / 10)) := fun k hk => by simp [digT, List.getD_eq_getElem?_getD, hk]
  refine ⟨D.cls, D, A, rfl, by rw [hsz]; rfl, by decide, fun k hk => ?_, fun i hi => ?_⟩
  · rw [dat k (by omega)]; exact key k (by omega)
  · rw [dat i (by omega)]
    exact (by decide : ∀ k : Fin 100, fits .byte (.int (Int32.ofNat (48 + k.1 / 10))) = true) ⟨i, by omega⟩
theorem sg_ex (x : Int32) : ∃ sg A d : Nat, ((sg = 0 ∧ ¬ x < 0 ∧ A = x.toInt.toNat) ∨ (sg = 1 ∧ x < 0 ∧ A = (-x.toInt).toNat)) ∧ Dig A d ∧ A ≤ 2147483648 ∧ sg ≤ 1 := by
  rcases Classical.em (x < 0) with h | h
  · obtain ⟨d, hd⟩ := dig_ex (ngt_lem h).2
    exact ⟨1, _, d, Or.inr ⟨rfl, h, rfl⟩, hd, (ngt_lem h).2, by decide⟩
  · obtain ⟨d, hd⟩ := dig_ex (Nat.le_of_lt (pos_lem h).2)
    exact ⟨0, _, d, Or.inl ⟨rfl, h, rfl⟩, hd, Nat.le_of_lt (pos_lem h).2, by decide⟩
theorem sg_t {sg A : Nat} {x : Int32} (hS : (sg = 0 ∧ ¬ x < 0 ∧ A = x.toInt.toNat) ∨ (sg = 1 ∧ x < 0 ∧ A = (-x.toInt).toNat)) (h : lcmpW x.toInt64 0 < 0) : sg = 1 := by
  have h := lt0_long.mp ((lw_lt _ _).mp h)
  rcases hS with ⟨_, q, _⟩ | ⟨q, _⟩
  · exact absurd h q
  · exact q
theorem sg_f {sg A : Nat} {x : Int32} (hS : (sg = 0 ∧ ¬ x < 0 ∧ A = x.toInt.toNat) ∨ (sg = 1 ∧ x < 0 ∧ A = (-x.toInt).toNat)) (h : ¬ lcmpW x.toInt64 0 < 0) : sg = 0 := by
  rcases hS with ⟨q, _⟩ | ⟨_, q, _⟩
  · exact q
  · exact absurd ((lw_lt _ _).mpr (lt0_long.mpr q)) h
theorem a_of0 {sg A : Nat} {x : Int32} (hS : (sg = 0 ∧ ¬ x < 0 ∧ A = x.toInt.toNat) ∨ (sg = 1 ∧ x < 0 ∧ A = (-x.toInt).toNat)) (h : sg = 0) : x.toInt64 = Int64.ofNat A := by
  rcases hS with ⟨_, q, r⟩ | ⟨q, _⟩
  · rw [r]; exact a_pos q
  · omega
theorem a_of1 {sg A : Nat} {x : Int32} (hS : (sg = 0 ∧ ¬ x < 0 ∧ A = x.toInt.toNat) ∨ (sg = 1 ∧ x < 0 ∧ A = (-x.toInt).toNat)) (h : sg = 1) : -x.toInt64 = Int64.ofNat A := by
  rcases hS with ⟨q, _⟩ | ⟨_, q, r⟩
  · omega
  · rw [r]; exact a_neg q
theorem m_lem (sg d : Nat) : (6 : Int32) + Int32.ofNat sg + Int32.ofNat d = Int32.ofNat (6 + sg + d) := by rw [show (6 : Int32) = Int32.ofNat 6 from rfl, ofn_add, ofn_add]
theorem len_lem {sg A d tn : Nat} {tp : List Int32} (h : tp.length = tn) : Int32.ofNat (qs sg A d tp).length = Int32.ofNat (6 + sg + d) + (10 : Int32) + Int32.ofNat tn := by rw [qs_len, h, show (10 : Int32) = Int32.ofNat 10 from rfl, ofn_add, ofn_add]
theorem tk_at {tn j : Nat} {l : List Int32} {c : Int32} (h : l[j]? = some c) (hj : j < tn) : (List.take tn l)[j]? = some c := by rw [List.getElem?_take_of_lt hj]; exact h
theorem nlt_of {tn k : Nat} (ht : tn ≤ 3) (hk : k ≤ 3) (h : ¬ Int32.ofNat tn < Int32.ofNat k) : k ≤ tn := by
  rw [ofn_lt (by omega) (by omega)] at h; omega
theorem lt_up {x a b : Int32} (h : x < a) (hab : a < b) : x < b := Int32.lt_trans h hab
def Q_law (Z : State) (v : Option Value) (h : Heap) (L : List Loc) : Prop := v = some (.int 1) ∧ Fr Z.heap.size L
-- com/example/wire_to_worker/wiretoworker/broker/QueueNameToStringPinLaw.law:(IIIII)Z
theorem ef_law (m : MethodId) (p0 : Int32) (p1 : Int32) (p2 : Int32) (p3 : Int32) (p4 : Int32) : entryFrame m #[(.int p0), (.int p1), (.int p2), (.int p3), (.int p4)] maxLocals = mkF m 0 #[vi p0, vi p1, vi p2, vi p3, vi p4, .unset, .unset, .unset, .unset, .unset, .unset, .unset, .unset, .unset, .unset, .unset, .unset, .unset, .unset, .unset, .unset, .unset, .unset] [] := by first | (simp [entryFrame, mkF, argsToLocals, Value.category, vi, vj, vr, maxLocals]; done) | rfl
theorem pd_28 : parseMethodDescriptor "([C)V" = some ⟨[(.array .char)], none⟩ := by decide +kernel
theorem pd_29 : parseMethodDescriptor "(Ljava/lang/String;I)V" = some ⟨[(.object "java/lang/String"), .int], none⟩ := by decide +kernel
theorem pd_30 : parseMethodDescriptor "(J)I" = some ⟨[.long], some .int⟩ := by decide +kernel
theorem pd_31 : parseMethodDescriptor "(Ljava/lang/String;IIJI)Z" = some ⟨[(.object "java/lang/String"), .int, .int, .long, .int], some .boolean⟩ := by decide +kernel
theorem pd_32 : parseMethodDescriptor "(Ljava/lang/String;I)Z" = some ⟨[(.object "java/lang/String"), .int], some .boolean⟩ := by decide +kernel
set_option maxRecDepth 65536 in
set_option maxHeartbeats 40000000 in
theorem rm_law (l : Launch) {Z : State} {a0 : Array Value} (hD : Wd Z a0) (p0 : Int32) (p1 : Int32) (p2 : Int32) (p3 : Int32) (p4 : Int32) {h0 : Heap} (O0 : Ext Z.heap h0) :
    ConH l Z EL x code maxLocals ret tables_1 room_1 #[(.int p0), (.int p1), (.int p2), (.int p3), (.int p4)] h0 [] (Q_law Z) := by
  refine ConH.walk (plainFor_of_name pn_10) ?_
  intro p e s vm0 k0 m below meth c T0 X0 hS0 hk0 hx hZ hby hml hown hnm hret hlk e0 A0 hss
  obtain ⟨hw, ⟨cz, S_CS, hcz⟩, ⟨sf, S_SF, hsf⟩, ⟨d1, d2, kd1, kd2, S_D1, S_D2, V_D1, V_D2⟩⟩ := id hD
  have N0 := Fr.nil Z.heap.size
  have hEL : EW Z a0 EL := el_of hw
  have hsa : ∀ a ∈ Bundle.stringAtoms, a.before a0 Z = true := fun d hd => hw d (words_sa d hd)
  refine OEndsH.cast (ef_law m p0 p1 p2 p3 p4) ?_
  have hws : ∀ d ∈ StrChars.Road.words, d.before a0 Z = true := fun d hd => hw d (words_new d hd)
  refine OEndsH.st (S' := T0.setTop (mkF m 8 #[vi p0, vi p1, vi p2, vi p3, vi p4, vi ((p1 &&& (255 : Int32)).toUInt32.toUInt16.toUInt32.toInt32), .unset, .unset, .unset, .unset, .unset, .unset, .unset, .unset, .unset, .unset, .unset, .unset, .unset, .unset, .unset, .unset, .unset] [])) (fun _ k => ?_) ?_
  · refine XS.iloadN X0.here hx rfl (hb hby at_0) rfl ?_
    refine XS.sipush X0.here hx rfl (hb hby at_1) ?_
    refine XS.iand X0.here hx rfl (hb hby at_4) rfl ?_
    refine XS.i2c X0.here hx rfl (hb hby at_5) rfl ?_
    show Steps p.tables e below (T0.setTop (mkF m 6 #[vi p0, vi p1, vi p2, vi p3, vi p4, .unset, .unset, .unset, .unset, .unset, .unset, .unset, .unset, .unset, .unset, .unset, .unset, .unset, .unset, .unset, .unset, .unset, .unset] [(.int ((p1 &&& (255 : Int32)).toUInt32.toUInt16.toUInt32.toInt32))])) _
    refine XS.istore X0.here hx rfl (hb hby at_6) rfl (l' := #[vi p0, vi p1, vi p2, vi p3, vi p4, vi ((p1 &&& (255 : Int32)).toUInt32.toUInt16.toUInt32.toInt32), .unset, .unset, .unset, .unset, .unset, .unset, .unset, .unset, .unset, .unset, .unset, .unset, .unset, .unset, .unset, .unset, .unset]) rfl ?_
    exact k
  generalize hg_x0 : ((p1 &&& (255 : Int32)).toUInt32.toUInt16.toUInt32.toInt32) = x0
  have hx0 : ¬ x0 < 0 ∧ ¬ (255 : Int32) < x0 := hg_x0 ▸ i2c255
  refine OEndsH.st (S' := T0.setTop (mkF m 16 #[vi p0, vi p1, vi p2, vi p3, vi p4, vi x0, vi ((p2 &&& (255 : Int32)).toUInt32.toUInt16.toUInt32.toInt32), .unset, .unset, .unset, .unset, .unset, .unset, .unset, .unset, .unset, .unset, .unset, .unset, .unset, .unset, .unset, .unset] [])) (fun _ k => ?_) ?_
  · refine XS.iloadN X0.here hx rfl (hb hby at_8) rfl ?_
    refine XS.sipush X0.here hx rfl (hb hby at_9) ?_
    refine XS.iand X0.here hx rfl (hb hby at_12) rfl ?_
    refine XS.i2c X0.here hx rfl (hb hby at_13) rfl ?_
    show Steps p.tables e below (T0.setTop (mkF m 14 #[vi p0, vi p1, vi p2, vi p3, vi p4, vi x0, .unset, .unset, .unset, .unset, .unset, .unset, .unset, .unset, .unset, .unset, .unset, .unset, .unset, .unset, .unset, .unset, .unset] [(.int ((p2 &&& (255 : Int32)).toUInt32.toUInt16.toUInt32.toInt32))])) _
    refine XS.istore X0.here hx rfl (hb hby at_14) rfl (l' := #[vi p0, vi p1, vi p2, vi p3, vi p4, vi x0, vi ((p2 &&& (255 : Int32)).toUInt32.toUInt16.toUInt32.toInt32), .unset, .unset, .unset, .unset, .unset, .unset, .unset, .unset, .unset, .unset, .unset, .unset, .unset, .unset, .unset, .unset]) rfl ?_
    exact k
  generalize hg_x1 : ((p2 &&& (255 : Int32)).toUInt32.toUInt16.toUInt32.toInt32) = x1
  have hx1 : ¬ x1 < 0 ∧ ¬ (255 : Int32) < x1 := hg_x1 ▸ i2c255
  refine OEndsH.st (S' := T0.setTop (mkF m 24 #[vi p0, vi p1, vi p2, vi p3, vi p4, vi x0, vi x1, vi ((p3 &&& (255 : Int32)).toUInt32.toUInt16.toUInt32.toInt32), .unset, .unset, .unset, .unset, .unset, .unset, .unset, .unset, .unset, .unset, .unset, .unset, .unset, .unset, .unset] [])) (fun _ k => ?_) ?_
  · refine XS.iloadN X0.here hx rfl (hb hby at_16) rfl ?_
    refine XS.sipush X0.here hx rfl (hb hby at_17) ?_
    refine XS.iand X0.here hx rfl (hb hby at_20) rfl ?_
    refine XS.i2c X0.here hx rfl (hb hby at_21) rfl ?_
    show Steps p.tables e below (T0.setTop (mkF m 22 #[vi p0, vi p1, vi p2, vi p3, vi p4, vi x0, vi x1, .unset, .unset, .unset, .unset, .unset, .unset, .unset, .unset, .unset, .unset, .unset, .unset, .unset, .unset, .unset, .unset] [(.int ((p3 &&& (255 : Int32)).toUInt32.toUInt16.toUInt32.toInt32))])) _
    refine XS.istore X0.here hx rfl (hb hby at_22) rfl (l' := #[vi p0, vi p1, vi p2, vi p3, vi p4, vi x0, vi x1, vi ((p3 &&& (255 : Int32)).toUInt32.toUInt16.toUInt32.toInt32), .unset, .unset, .unset, .unset, .unset, .unset, .unset, .unset, .unset, .unset, .unset, .unset, .unset, .unset, .unset]) rfl ?_
    exact k
  generalize hg_x2 : ((p3 &&& (255 : Int32)).toUInt32.toUInt16.toUInt32.toInt32) = x2
  have hx2 : ¬ x2 < 0 ∧ ¬ (255 : Int32) < x2 := hg_x2 ▸ i2c255
  obtain ⟨tn, htn, en⟩ := and3 p4
  refine OEndsH.st (S' := T0.setTop (mkF m 30 #[vi p0, vi p1, vi p2, vi p3, vi p4, vi x0, vi x1, vi x2, vi (p4 &&& (3 : Int32)), .unset, .unset, .unset, .unset, .unset, .unset, .unset, .unset, .unset, .unset, .unset, .unset, .unset, .unset] [])) (fun _ k => ?_) ?_
  · refine XS.iload X0.here hx rfl (hb hby at_24) rfl ?_
    refine XS.iconst X0.here hx rfl (hb hby at_26) ?_
    refine XS.iand X0.here hx rfl (hb hby at_27) rfl ?_
    refine XS.istore X0.here hx rfl (hb hby at_28) rfl (l' := #[vi p0, vi p1, vi p2, vi p3, vi p4, vi x0, vi x1, vi x2, vi (p4 &&& (3 : Int32)), .unset, .unset, .unset, .unset, .unset, .unset, .unset, .unset, .unset, .unset, .unset, .unset, .unset, .unset]) rfl ?_
    exact k
  rw [en]
  have h4 : tn = 0 ∨ tn = 1 ∨ tn = 2 ∨ tn = 3 := by omega
  obtain ⟨_, ⟨tp, ca, tt, kt, T1, h1, vm1, k1, lc1, fj1, X1, e1, hS1, hk1, hZ1, hown1, A1, O1, N1, rfl⟩, st1⟩ : OJ p e below (fun S' => ∃ (tp : Addr) (ca : Addr) (tt : Addr) (kt : ClassId) (T' : State) (h' : Heap) (vm' : Vm) (k' : Nat) (lc : List Loc), (Exa Z h' tp "java/lang/String" ∧ Fld Z h' tp "java/lang/String" "coder" "B" (.int 0) ∧ Fld Z h' tp "java/lang/String" "value" "[B" (.ref tt) ∧ Arv Z h' tt kt .byte (Int32.ofNat tn) (bys (List.take tn [x0, x1, x2])) (.int 0)) ∧ Stand p l e room_1 (s.setVm vm') m #[(.int p0), (.int p1), (.int p2), (.int p3), (.int p4)] below meth c T' lc 6 64 ∧ T'.heap = h' ∧ s.Since vm' k' ∧ k' ≤ h'.size ∧ Z.Warmed39 vm' ∧ vm'.findClass "com/example/wire_to_worker/wiretoworker/broker/QueueNameToStringPinLaw" = some m.cls ∧ CHr Z EL s.vm s.heap vm' h' ∧ Ext Z.heap h' ∧ Fr Z.heap.size lc ∧ S' = T'.setTop (mkF m 117 #[vi p0, vi p1, vi p2, vi p3, vi p4, vi x0, vi x1, vi x2, vi (Int32.ofNat tn), vr ca, vr tp, .unset, .unset, .unset, .unset, .unset, .unset, .unset, .unset, .unset, .unset, .unset, .unset] [])) (T0.setTop (mkF m 30 #[vi p0, vi p1, vi p2, vi p3, vi p4, vi x0, vi x1, vi x2, vi (Int32.ofNat tn), .unset, .unset, .unset, .unset, .unset, .unset, .unset, .unset, .unset, .unset, .unset, .unset, .unset, .unset] [])) := by
    rcases h4 with rfl | rfl | rfl | rfl
    · refine OJ.st (S' := T0.setTop (mkF m 36 #[vi p0, vi p1, vi p2, vi p3, vi p4, vi x0, vi x1, vi x2, vi (Int32.ofNat 0), .unset, .unset, .unset, .unset, .unset, .unset, .unset, .unset, .unset, .unset, .unset, .unset, .unset, .unset] [(.int 0)])) (fun _ k => ?_) ?_
      · refine XS.iload X0.here hx rfl (hb hby at_30) rfl ?_
        refine XS.ifNo X0.here hx rfl (hb hby at_32) rfl ((if0 _ _).trans (teq (by decide)).2) ?_
        refine XS.iconst X0.here hx rfl (hb hby at_35) ?_
        exact k
      obtain ⟨T2, h2, k2, X2, e2, E2, A2, st2⟩ := newP X0 hx hZ (wq hw 0 rfl) e0 (g := (mkF m 36 #[vi p0, vi p1, vi p2, vi p3, vi p4, vi x0, vi x1, vi x2, vi (Int32.ofNat 0), .unset, .unset, .unset, .unset, .unset, .unset, .unset, .unset, .unset, .unset, .unset, .unset, .unset, .unset] [(.int 0)])) rfl (hb hby at_36) rfl (by decide) (cap := 0) (by decide) (by decide) (by decide) (by decide)
      obtain ⟨b2, g2⟩ : ∃ z, z = h0.size := ⟨_, rfl⟩
      rw [← g2] at A2 st2
      refine OJ.st st2 ?_
      have ge_b2 : Z.heap.size ≤ b2 := Nat.le_trans O0.1 (Nat.le_of_eq g2.symm)
      have S_b2 : Safe Z EL vm0 h0 b2 := Safe.new (Nat.le_of_eq g2.symm)
      have S_b2' : Safe Z EL vm0 h2 b2 := Safe.ext E2 A0.1 S_b2
      have A' : CHr Z EL s.vm s.heap vm0 h2 := A0.trans (CHr.ext E2 A0.1)
      replace S_b2 := S_b2'
      replace A0 := A'
      replace hk0 := Nat.le_trans hk0 E2.1
      replace O0 : Ext Z.heap h2 := ext_trans O0 E2
      have V_b2 : Arv Z h2 b2 k2 .char (0 : Int32) [] (.int 0) := Arv.new A2 (by decide)
      refine OJ.st (S' := T2.setTop (mkF m 106 #[vi p0, vi p1, vi p2, vi p3, vi p4, vi x0, vi x1, vi x2, vi (Int32.ofNat 0), vr b2, .unset, .unset, .unset, .unset, .unset, .unset, .unset, .unset, .unset, .unset, .unset, .unset, .unset] [])) (fun _ k => ?_) ?_
      · refine XS.astore X2.here hx rfl (hb hby at_38) rfl rfl (l' := #[vi p0, vi p1, vi p2, vi p3, vi p4, vi x0, vi x1, vi x2, vi (Int32.ofNat 0), vr b2, .unset, .unset, .unset, .unset, .unset, .unset, .unset, .unset, .unset, .unset, .unset, .unset, .unset]) rfl ?_
        refine XS.goto X2.here hx rfl (pc0 := 40) (pc' := 106) rfl (hb hby at_40) (by decide) (by decide) ?_
        exact k
      obtain ⟨T3, h3, X3, e3, E3, A3, D3, U3, st3⟩ := newO X2 hx hZ hown (wq hw 1 rfl) (wq hw 2 rfl) (wq hw 3 rfl) e2 (g := (mkF m 106 #[vi p0, vi p1, vi p2, vi p3, vi p4, vi x0, vi x1, vi x2, vi (Int32.ofNat 0), vr b2, .unset, .unset, .unset, .unset, .unset, .unset, .unset, .unset, .unset, .unset, .unset, .unset, .unset] [])) rfl (hb hby at_106) (by decide) (by decide)
      obtain ⟨b3, g3⟩ : ∃ z, z = h2.size := ⟨_, rfl⟩
      rw [← g3] at A3 D3 U3 st3
      refine OJ.st st3 ?_
      have ne_b2_b3 : b2 ≠ b3 := Nat.ne_of_lt (Nat.lt_of_lt_of_le V_b2.lt (Nat.le_of_eq g3.symm))
      have ge_b3 : Z.heap.size ≤ b3 := Nat.le_trans O0.1 (Nat.le_of_eq g3.symm)
      have S_b3 : Safe Z EL vm0 h2 b3 := Safe.new (Nat.le_of_eq g3.symm)
      replace V_b2 := V_b2.ext E3
      have S_b2' : Safe Z EL vm0 h3 b2 := Safe.ext E3 A0.1 S_b2
      have S_b3' : Safe Z EL vm0 h3 b3 := Safe.ext E3 A0.1 S_b3
      have A' : CHr Z EL s.vm s.heap vm0 h3 := A0.trans (CHr.ext E3 A0.1)
      replace S_b2 := S_b2'
      replace S_b3 := S_b3'
      replace A0 := A'
      replace hk0 := Nat.le_trans hk0 E3.1
      replace O0 : Ext Z.heap h3 := ext_trans O0 E3
      have F_value_b3 : Fld Z h3 b3 "java/lang/String" "value" "[B" .null := D3 (Or.inr (wq hw 16 rfl)) (ty := (.array .byte)) (by decide)
      have F_coder_b3 : Fld Z h3 b3 "java/lang/String" "coder" "B" (.int 0) := D3 (Or.inr (wq hw 17 rfl)) (ty := .byte) (by decide)
      refine OJ.st (S' := T3.setTop (mkF m 112 #[vi p0, vi p1, vi p2, vi p3, vi p4, vi x0, vi x1, vi x2, vi (Int32.ofNat 0), vr b2, .unset, .unset, .unset, .unset, .unset, .unset, .unset, .unset, .unset, .unset, .unset, .unset, .unset] [(.ref b2), (.ref b3), (.ref b3)])) (fun _ k => ?_) ?_
      · refine XS.dup X3.here hx rfl (hb hby at_109) rfl rfl ?_
        refine XS.aload X3.here hx rfl (hb hby at_110) rfl rfl ?_
        exact k
      obtain ⟨_, T4, h4, L4, vm4, k14, X4, e4, hQ4, hS4, hk4, hZ4, hown4, Aq4, st4⟩ := specH X3 hx hZ rfl hown (wq hw 4 rfl) (wq hw 5 rfl) (wq hw 6 rfl) (by decide) (kc := 4) (ks := 8) (ConH.sb (W := 1) (rm_strE1 l hD b3 b2 k2 O0 A3 F_value_b3 F_coder_b3 ge_b3 V_b2) hZ (wq hw 6 rfl) (wq hw 3 rfl) (by decide) (by decide) hEL A0.1 (allS ⟨A3.lt, S_b3⟩ all0)) e3 hS0 hk0 (a := b3) (g := (mkF m 112 #[vi p0, vi p1, vi p2, vi p3, vi p4, vi x0, vi x1, vi x2, vi (Int32.ofNat 0), vr b2, .unset, .unset, .unset, .unset, .unset, .unset, .unset, .unset, .unset, .unset, .unset, .unset, .unset] [(.ref b2), (.ref b3), (.ref b3)])) rfl (by rw [hml]; rfl) (argsL := [(.ref b2)]) (rest := [(.ref b3)]) (lenOf pd_28 rfl) rfl (by show 2 * 0 + _ ≤ _; exact Nat.le_of_eq rfl) (hb hby at_112) (by decide) (by decide)
      obtain ⟨rfl, Nq4, Kq4, Eq4, Fc4, tq4, kq4, Fv4, V4⟩ := hQ4
      replace S_b2 : Safe Z EL vm4 h4 b2 := Aq4.safe V_b2.lt S_b2
      replace S_b3 : Safe Z EL vm4 h4 b3 := Aq4.safe A3.lt S_b3
      replace A0 : CHr Z EL s.vm s.heap vm4 h4 := A0.trans Aq4
      refine OJ.st st4 ?_
      replace N0 := Fr.app N0 Nq4
      replace V_b2 := V_b2.keep Kq4 (ninS ne_b2_b3 nin0)
      replace A3 := A3.keep Kq4
      replace O0 : Ext Z.heap h4 := ext_keep O0 Kq4 (allS ge_b3 all0)
      refine OJ.st (S' := T4.setTop (mkF m 117 #[vi p0, vi p1, vi p2, vi p3, vi p4, vi x0, vi x1, vi x2, vi (Int32.ofNat 0), vr b2, vr b3, .unset, .unset, .unset, .unset, .unset, .unset, .unset, .unset, .unset, .unset, .unset, .unset] [])) (fun _ k => ?_) ?_
      · refine XS.astore X4.here hx rfl (hb hby at_115) rfl rfl (l' := #[vi p0, vi p1, vi p2, vi p3, vi p4, vi x0, vi x1, vi x2, vi (Int32.ofNat 0), vr b2, vr b3, .unset, .unset, .unset, .unset, .unset, .unset, .unset, .unset, .unset, .unset, .unset, .unset]) rfl ?_
        exact k
      exact OJ.here ⟨b3, b2, tq4, kq4, T4, h4, vm4, _, _, ⟨A3, Fc4, Fv4, V4⟩, X4.more (by decide) (by decide), e4, hS4, hk4, hZ4, hown4, A0, O0, N0, rfl⟩
    · refine OJ.st (S' := T0.setTop (mkF m 50 #[vi p0, vi p1, vi p2, vi p3, vi p4, vi x0, vi x1, vi x2, vi (Int32.ofNat 1), .unset, .unset, .unset, .unset, .unset, .unset, .unset, .unset, .unset, .unset, .unset, .unset, .unset, .unset] [(.int 1)])) (fun _ k => ?_) ?_
      · refine XS.iload X0.here hx rfl (hb hby at_30) rfl ?_
        refine XS.ifYes X0.here hx rfl (pc0 := 32) (pc' := 43) rfl (hb hby at_32) rfl ((if0 _ _).trans (feq (by decide)).2) (by decide) (by decide) ?_
        refine XS.iload X0.here hx rfl (hb hby at_43) rfl ?_
        refine XS.iconst X0.here hx rfl (hb hby at_45) ?_
        show Steps p.tables e below (T0.setTop (mkF m 46 #[vi p0, vi p1, vi p2, vi p3, vi p4, vi x0, vi x1, vi x2, vi (Int32.ofNat 1), .unset, .unset, .unset, .unset, .unset, .unset, .unset, .unset, .unset, .unset, .unset, .unset, .unset, .unset] [(.int 1), (.int (Int32.ofNat 1))])) _
        refine XS.icmpNo X0.here hx rfl (hb hby at_46) rfl (teq (by decide)).2 ?_
        refine XS.iconst X0.here hx rfl (hb hby at_49) ?_
        exact k
      obtain ⟨T2, h2, k2, X2, e2, E2, A2, st2⟩ := newP X0 hx hZ (wq hw 0 rfl) e0 (g := (mkF m 50 #[vi p0, vi p1, vi p2, vi p3, vi p4, vi x0, vi x1, vi x2, vi (Int32.ofNat 1), .unset, .unset, .unset, .unset, .unset, .unset, .unset, .unset, .unset, .unset, .unset, .unset, .unset, .unset] [(.int 1)])) rfl (hb hby at_50) rfl (by decide) (cap := 1) (by decide) (by decide) (by decide) (by decide)
      obtain ⟨b2, g2⟩ : ∃ z, z = h0.size := ⟨_, rfl⟩
      rw [← g2] at A2 st2
      refine OJ.st st2 ?_
      have ge_b2 : Z.heap.size ≤ b2 := Nat.le_trans O0.1 (Nat.le_of_eq g2.symm)
      have S_b2 : Safe Z EL vm0 h0 b2 := Safe.new (Nat.le_of_eq g2.symm)
      have S_b2' : Safe Z EL vm0 h2 b2 := Safe.ext E2 A0.1 S_b2
      have A' : CHr Z EL s.vm s.heap vm0 h2 := A0.trans (CHr.ext E2 A0.1)
      replace S_b2 := S_b2'
      replace A0 := A'
      replace hk0 := Nat.le_trans hk0 E2.1
      replace O0 : Ext Z.heap h2 := ext_trans O0 E2
      have V_b2 : Arv Z h2 b2 k2 .char (1 : Int32) [(.int 0)] (.int 0) := (Arv.new A2 (by decide)).pad (pad_rep [] (.int 0) 1)
      refine OJ.st (S' := T2.setTop (mkF m 56 #[vi p0, vi p1, vi p2, vi p3, vi p4, vi x0, vi x1, vi x2, vi (Int32.ofNat 1), .unset, .unset, .unset, .unset, .unset, .unset, .unset, .unset, .unset, .unset, .unset, .unset, .unset, .unset] [(.int x0), (.int 0), (.ref b2), (.ref b2)])) (fun _ k => ?_) ?_
      · refine XS.dup X2.here hx rfl (hb hby at_52) rfl rfl ?_
        refine XS.iconst X2.here hx rfl (hb hby at_53) ?_
        refine XS.iload X2.here hx rfl (hb hby at_54) rfl ?_
        exact k
      obtain ⟨cl_b2_3, Ar_b2_3, q_b2_3, S_b2_3, N_b2_3, H_b2_3, G_b2_3⟩ := V_b2
      obtain ⟨T3, h3, X3, e3, W3, st3⟩ := stC X2 hx hZ e2 Ar_b2_3 (j := (0 : Int32)) (inb_of S_b2_3 ⟨by decide, by decide⟩) (g := (mkF m 56 #[vi p0, vi p1, vi p2, vi p3, vi p4, vi x0, vi x1, vi x2, vi (Int32.ofNat 1), .unset, .unset, .unset, .unset, .unset, .unset, .unset, .unset, .unset, .unset, .unset, .unset, .unset, .unset] [(.int x0), (.int 0), (.ref b2), (.ref b2)])) rfl rfl (hb hby at_56)
      have V_b2_3 : Arv Z h3 b2 k2 .char (1 : Int32) [(.int (nar .char x0))] (.int 0) := Arv.set Ar_b2_3 q_b2_3 S_b2_3 N_b2_3 H_b2_3 G_b2_3 (fits_nar_char _) W3 0 rfl (Nat.le_of_ble_eq_true rfl)
      refine OJ.st st3 ?_
      have S_b2' : Safe Z EL vm0 h3 b2 := Safe.wr W3 S_b2 A0.1 S_b2
      have A' : CHr Z EL s.vm s.heap vm0 h3 := A0.trans (CHr.wr W3 S_b2 A0.1)
      replace S_b2 := S_b2'
      replace A0 := A'
      replace hk0 := Nat.le_trans hk0 (Keep.of_wr W3).1
      replace O0 : Ext Z.heap h3 := ext_wr O0 W3 ge_b2
      replace N0 := Fr.snoc X3 N0 ge_b2
      refine OJ.st (S' := T3.setTop (mkF m 106 #[vi p0, vi p1, vi p2, vi p3, vi p4, vi x0, vi x1, vi x2, vi (Int32.ofNat 1), vr b2, .unset, .unset, .unset, .unset, .unset, .unset, .unset, .unset, .unset, .unset, .unset, .unset, .unset] [])) (fun _ k => ?_) ?_
      · refine XS.astore X3.here hx rfl (hb hby at_57) rfl rfl (l' := #[vi p0, vi p1, vi p2, vi p3, vi p4, vi x0, vi x1, vi x2, vi (Int32.ofNat 1), vr b2, .unset, .unset, .unset, .unset, .unset, .unset, .unset, .unset, .unset, .unset, .unset, .unset, .unset]) rfl ?_
        refine XS.goto X3.here hx rfl (pc0 := 59) (pc' := 106) rfl (hb hby at_59) (by decide) (by decide) ?_
        exact k
      obtain ⟨T4, h4, X4, e4, E4, A4, D4, U4, st4⟩ := newO X3 hx hZ hown (wq hw 1 rfl) (wq hw 2 rfl) (wq hw 3 rfl) e3 (g := (mkF m 106 #[vi p0, vi p1, vi p2, vi p3, vi p4, vi x0, vi x1, vi x2, vi (Int32.ofNat 1), vr b2, .unset, .unset, .unset, .unset, .unset, .unset, .unset, .unset, .unset, .unset, .unset, .unset, .unset] [])) rfl (hb hby at_106) (by decide) (by decide)
      obtain ⟨b4, g4⟩ : ∃ z, z = h3.size := ⟨_, rfl⟩
      rw [← g4] at A4 D4 U4 st4
      refine OJ.st st4 ?_
      have ne_b2_b4 : b2 ≠ b4 := Nat.ne_of_lt (Nat.lt_of_lt_of_le V_b2_3.lt (Nat.le_of_eq g4.symm))
      have ge_b4 : Z.heap.size ≤ b4 := Nat.le_trans O0.1 (Nat.le_of_eq g4.symm)
      have S_b4 : Safe Z EL vm0 h3 b4 := Safe.new (Nat.le_of_eq g4.symm)
      replace V_b2_3 := V_b2_3.ext E4
      have S_b2' : Safe Z EL vm0 h4 b2 := Safe.ext E4 A0.1 S_b2
      have S_b4' : Safe Z EL vm0 h4 b4 := Safe.ext E4 A0.1 S_b4
      have A' : CHr Z EL s.vm s.heap vm0 h4 := A0.trans (CHr.ext E4 A0.1)
      replace S_b2 := S_b2'
      replace S_b4 := S_b4'
      replace A0 := A'
      replace hk0 := Nat.le_trans hk0 E4.1
      replace O0 : Ext Z.heap h4 := ext_trans O0 E4
      have F_value_b4 : Fld Z h4 b4 "java/lang/String" "value" "[B" .null := D4 (Or.inr (wq hw 16 rfl)) (ty := (.array .byte)) (by decide)
      have F_coder_b4 : Fld Z h4 b4 "java/lang/String" "coder" "B" (.int 0) := D4 (Or.inr (wq hw 17 rfl)) (ty := .byte) (by decide)
      refine OJ.st (S' := T4.setTop (mkF m 112 #[vi p0, vi p1, vi p2, vi p3, vi p4, vi x0, vi x1, vi x2, vi (Int32.ofNat 1), vr b2, .unset, .unset, .unset, .unset, .unset, .unset, .unset, .unset, .unset, .unset, .unset, .unset, .unset] [(.ref b2), (.ref b4), (.ref b4)])) (fun _ k => ?_) ?_
      · refine XS.dup X4.here hx rfl (hb hby at_109) rfl rfl ?_
        refine XS.aload X4.here hx rfl (hb hby at_110) rfl rfl ?_
        exact k
      simp only [nar_char (x := x0) hx0] at V_b2_3
      have hp5 : ∀ c ∈ ([x0] : List Int32), ¬ c < 0 ∧ ¬ (255 : Int32) < c := by
        intro c hc; simp only [List.mem_cons, List.not_mem_nil, or_false] at hc
        rcases hc with rfl
        · exact hx0
      obtain ⟨_, T6, h6, L6, X6, e6, hQ6, st6⟩ := specC X4 hx hZ rfl hown (wq hw 4 rfl) (wq hw 5 rfl) (wq hw 6 rfl) (by decide) (kc := 1) (ks := 1) (SB.of (Q := StrChars.Road.QV Z b4 (1 : Int32) (([x0] : List Int32).map (fun c => c.toInt8.toInt32)) h4 Z.heap.size) (StrChars.Road.backV (W := 1) hZ hws (kI := 4) (wq hw 2 rfl) (cs := ([x0] : List Int32)) (bs := (([x0] : List Int32).map (fun c => c.toInt8.toInt32))) (n := 1) ge_b4 O0.1 A4 F_value_b4 F_coder_b4 V_b2_3 (S_CS.ext O0) hcz rfl rfl (by decide) (by decide) hp5 rfl (by decide) (by decide))) e4 (a := b4) (g := (mkF m 112 #[vi p0, vi p1, vi p2, vi p3, vi p4, vi x0, vi x1, vi x2, vi (Int32.ofNat 1), vr b2, .unset, .unset, .unset, .unset, .unset, .unset, .unset, .unset, .unset, .unset, .unset, .unset, .unset] [(.ref b2), (.ref b4), (.ref b4)])) rfl (by rw [hml]; rfl) (argsL := [(.ref b2)]) (rest := [(.ref b4)]) (lenOf pd_28 rfl) rfl (by show 2 * 0 + _ ≤ _; exact Nat.le_of_eq rfl) (hb hby at_112) (by decide) (by decide)
      obtain ⟨rfl, Nq6, Kq6, Eq6, Fc6, t6, kb6, gq6, szq6, nq6, Fv6, V6⟩ := hQ6
      refine OJ.st st6 ?_
      replace N0 := Fr.app N0 Nq6
      have ne_b2_t6 : b2 ≠ t6 := Nat.ne_of_lt (Nat.lt_of_lt_of_le V_b2_3.lt szq6)
      have ne_b4_t6 : b4 ≠ t6 := Nat.ne_of_lt (Nat.lt_of_lt_of_le A4.lt szq6)
      have ge_t6 : Z.heap.size ≤ t6 := Nat.le_trans O0.1 szq6
      have S_t6 : Safe Z EL vm0 h4 t6 := Safe.new szq6
      replace V_b2_3 := V_b2_3.keep Kq6 (ninS ne_b2_b4 nin0)
      replace A4 := A4.keep Kq6
      have S_b2' : Safe Z EL vm0 h6 b2 := Safe.keep Kq6 (sfS S_b4 sf0) A0.1 S_b2
      have S_b4' : Safe Z EL vm0 h6 b4 := Safe.keep Kq6 (sfS S_b4 sf0) A0.1 S_b4
      have S_t6' : Safe Z EL vm0 h6 t6 := Safe.keep Kq6 (sfS S_b4 sf0) A0.1 S_t6
      have A' : CHr Z EL s.vm s.heap vm0 h6 := A0.trans (CHr.keep Kq6 (sfS S_b4 sf0) A0.1)
      replace S_b2 := S_b2'
      replace S_b4 := S_b4'
      replace S_t6 := S_t6'
      replace A0 := A'
      replace hk0 := Nat.le_trans hk0 Kq6.1
      replace O0 : Ext Z.heap h6 := ext_keep O0 Kq6 (allS ge_b4 all0)
      replace V6 : Arv Z h6 t6 kb6 .byte (Int32.ofNat 1) [(.int (x0).toInt8.toInt32)] (.int 0) := V6
      clear V_b2_3
      refine OJ.st (S' := T6.setTop (mkF m 117 #[vi p0, vi p1, vi p2, vi p3, vi p4, vi x0, vi x1, vi x2, vi (Int32.ofNat 1), vr b2, vr b4, .unset, .unset, .unset, .unset, .unset, .unset, .unset, .unset, .unset, .unset, .unset, .unset] [])) (fun _ k => ?_) ?_
      · refine XS.astore X6.here hx rfl (hb hby at_115) rfl rfl (l' := #[vi p0, vi p1, vi p2, vi p3, vi p4, vi x0, vi x1, vi x2, vi (Int32.ofNat 1), vr b2, vr b4, .unset, .unset, .unset, .unset, .unset, .unset, .unset, .unset, .unset, .unset, .unset, .unset]) rfl ?_
        exact k
      exact OJ.here ⟨b4, b2, t6, kb6, T6, h6, vm0, _, _, ⟨A4, Fc6, Fv6, V6⟩, X6.more (by decide) (by decide), e6, hS0, hk0, hZ, hown, A0, O0, N0, rfl⟩
    · refine OJ.st (S' := T0.setTop (mkF m 69 #[vi p0, vi p1, vi p2, vi p3, vi p4, vi x0, vi x1, vi x2, vi (Int32.ofNat 2), .unset, .unset, .unset, .unset, .unset, .unset, .unset, .unset, .unset, .unset, .unset, .unset, .unset, .unset] [(.int 2)])) (fun _ k => ?_) ?_
      · refine XS.iload X0.here hx rfl (hb hby at_30) rfl ?_
        refine XS.ifYes X0.here hx rfl (pc0 := 32) (pc' := 43) rfl (hb hby at_32) rfl ((if0 _ _).trans (feq (by decide)).2) (by decide) (by decide) ?_
        refine XS.iload X0.here hx rfl (hb hby at_43) rfl ?_
        refine XS.iconst X0.here hx rfl (hb hby at_45) ?_
        show Steps p.tables e below (T0.setTop (mkF m 46 #[vi p0, vi p1, vi p2, vi p3, vi p4, vi x0, vi x1, vi x2, vi (Int32.ofNat 2), .unset, .unset, .unset, .unset, .unset, .unset, .unset, .unset, .unset, .unset, .unset, .unset, .unset, .unset] [(.int 1), (.int (Int32.ofNat 2))])) _
        refine XS.icmpYes X0.here hx rfl (pc0 := 46) (pc' := 62) rfl (hb hby at_46) rfl (feq (by decide)).2 (by decide) (by decide) ?_
        refine XS.iload X0.here hx rfl (hb hby at_62) rfl ?_
        refine XS.iconst X0.here hx rfl (hb hby at_64) ?_
        refine XS.icmpNo X0.here hx rfl (hb hby at_65) rfl (teq (by decide)).2 ?_
        show Steps p.tables e below (T0.setTop (mkF m 68 #[vi p0, vi p1, vi p2, vi p3, vi p4, vi x0, vi x1, vi x2, vi (Int32.ofNat 2), .unset, .unset, .unset, .unset, .unset, .unset, .unset, .unset, .unset, .unset, .unset, .unset, .unset, .unset] [])) _
        refine XS.iconst X0.here hx rfl (hb hby at_68) ?_
        exact k
      obtain ⟨T2, h2, k2, X2, e2, E2, A2, st2⟩ := newP X0 hx hZ (wq hw 0 rfl) e0 (g := (mkF m 69 #[vi p0, vi p1, vi p2, vi p3, vi p4, vi x0, vi x1, vi x2, vi (Int32.ofNat 2), .unset, .unset, .unset, .unset, .unset, .unset, .unset, .unset, .unset, .unset, .unset, .unset, .unset, .unset] [(.int 2)])) rfl (hb hby at_69) rfl (by decide) (cap := 2) (by decide) (by decide) (by decide) (by decide)
      obtain ⟨b2, g2⟩ : ∃ z, z = h0.size := ⟨_, rfl⟩
      rw [← g2] at A2 st2
      refine OJ.st st2 ?_
      have ge_b2 : Z.heap.size ≤ b2 := Nat.le_trans O0.1 (Nat.le_of_eq g2.symm)
      have S_b2 : Safe Z EL vm0 h0 b2 := Safe.new (Nat.le_of_eq g2.symm)
      have S_b2' : Safe Z EL vm0 h2 b2 := Safe.ext E2 A0.1 S_b2
      have A' : CHr Z EL s.vm s.heap vm0 h2 := A0.trans (CHr.ext E2 A0.1)
      replace S_b2 := S_b2'
      replace A0 := A'
      replace hk0 := Nat.le_trans hk0 E2.1
      replace O0 : Ext Z.heap h2 := ext_trans O0 E2
      have V_b2 : Arv Z h2 b2 k2 .char (2 : Int32) [(.int 0), (.int 0)] (.int 0) := (Arv.new A2 (by decide)).pad (pad_rep [] (.int 0) 2)
      refine OJ.st (S' := T2.setTop (mkF m 75 #[vi p0, vi p1, vi p2, vi p3, vi p4, vi x0, vi x1, vi x2, vi (Int32.ofNat 2), .unset, .unset, .unset, .unset, .unset, .unset, .unset, .unset, .unset, .unset, .unset, .unset, .unset, .unset] [(.int x0), (.int 0), (.ref b2), (.ref b2)])) (fun _ k => ?_) ?_
      · refine XS.dup X2.here hx rfl (hb hby at_71) rfl rfl ?_
        refine XS.iconst X2.here hx rfl (hb hby at_72) ?_
        refine XS.iload X2.here hx rfl (hb hby at_73) rfl ?_
        exact k
      obtain ⟨cl_b2_3, Ar_b2_3, q_b2_3, S_b2_3, N_b2_3, H_b2_3, G_b2_3⟩ := V_b2
      obtain ⟨T3, h3, X3, e3, W3, st3⟩ := stC X2 hx hZ e2 Ar_b2_3 (j := (0 : Int32)) (inb_of S_b2_3 ⟨by decide, by decide⟩) (g := (mkF m 75 #[vi p0, vi p1, vi p2, vi p3, vi p4, vi x0, vi x1, vi x2, vi (Int32.ofNat 2), .unset, .unset, .unset, .unset, .unset, .unset, .unset, .unset, .unset, .unset, .unset, .unset, .unset, .unset] [(.int x0), (.int 0), (.ref b2), (.ref b2)])) rfl rfl (hb hby at_75)
      have V_b2_3 : Arv Z h3 b2 k2 .char (2 : Int32) [(.int (nar .char x0)), (.int 0)] (.int 0) := Arv.set Ar_b2_3 q_b2_3 S_b2_3 N_b2_3 H_b2_3 G_b2_3 (fits_nar_char _) W3 0 rfl (Nat.le_of_ble_eq_true rfl)
      refine OJ.st st3 ?_
      have S_b2' : Safe Z EL vm0 h3 b2 := Safe.wr W3 S_b2 A0.1 S_b2
      have A' : CHr Z EL s.vm s.heap vm0 h3 := A0.trans (CHr.wr W3 S_b2 A0.1)
      replace S_b2 := S_b2'
      replace A0 := A'
      replace hk0 := Nat.le_trans hk0 (Keep.of_wr W3).1
      replace O0 : Ext Z.heap h3 := ext_wr O0 W3 ge_b2
      replace N0 := Fr.snoc X3 N0 ge_b2
      refine OJ.st (S' := T3.setTop (mkF m 80 #[vi p0, vi p1, vi p2, vi p3, vi p4, vi x0, vi x1, vi x2, vi (Int32.ofNat 2), .unset, .unset, .unset, .unset, .unset, .unset, .unset, .unset, .unset, .unset, .unset, .unset, .unset, .unset] [(.int x1), (.int 1), (.ref b2), (.ref b2)])) (fun _ k => ?_) ?_
      · refine XS.dup X3.here hx rfl (hb hby at_76) rfl rfl ?_
        refine XS.iconst X3.here hx rfl (hb hby at_77) ?_
        refine XS.iload X3.here hx rfl (hb hby at_78) rfl ?_
        exact k
      obtain ⟨cl_b2_4, Ar_b2_4, q_b2_4, S_b2_4, N_b2_4, H_b2_4, G_b2_4⟩ := V_b2_3
      obtain ⟨T4, h4, X4, e4, W4, st4⟩ := stC X3 hx hZ e3 Ar_b2_4 (j := (1 : Int32)) (inb_of S_b2_4 ⟨by decide, by decide⟩) (g := (mkF m 80 #[vi p0, vi p1, vi p2, vi p3, vi p4, vi x0, vi x1, vi x2, vi (Int32.ofNat 2), .unset, .unset, .unset, .unset, .unset, .unset, .unset, .unset, .unset, .unset, .unset, .unset, .unset, .unset] [(.int x1), (.int 1), (.ref b2), (.ref b2)])) rfl rfl (hb hby at_80)
      have V_b2_4 : Arv Z h4 b2 k2 .char (2 : Int32) [(.int (nar .char x0)), (.int (nar .char x1))] (.int 0) := Arv.set Ar_b2_4 q_b2_4 S_b2_4 N_b2_4 H_b2_4 G_b2_4 (fits_nar_char _) W4 1 rfl (Nat.le_of_ble_eq_true rfl)
      refine OJ.st st4 ?_
      have S_b2' : Safe Z EL vm0 h4 b2 := Safe.wr W4 S_b2 A0.1 S_b2
      have A' : CHr Z EL s.vm s.heap vm0 h4 := A0.trans (CHr.wr W4 S_b2 A0.1)
      replace S_b2 := S_b2'
      replace A0 := A'
      replace hk0 := Nat.le_trans hk0 (Keep.of_wr W4).1
      replace O0 : Ext Z.heap h4 := ext_wr O0 W4 ge_b2
      replace N0 := Fr.snoc X4 N0 ge_b2
      refine OJ.st (S' := T4.setTop (mkF m 106 #[vi p0, vi p1, vi p2, vi p3, vi p4, vi x0, vi x1, vi x2, vi (Int32.ofNat 2), vr b2, .unset, .unset, .unset, .unset, .unset, .unset, .unset, .unset, .unset, .unset, .unset, .unset, .unset] [])) (fun _ k => ?_) ?_
      · refine XS.astore X4.here hx rfl (hb hby at_81) rfl rfl (l' := #[vi p0, vi p1, vi p2, vi p3, vi p4, vi x0, vi x1, vi x2, vi (Int32.ofNat 2), vr b2, .unset, .unset, .unset, .unset, .unset, .unset, .unset, .unset, .unset, .unset, .unset, .unset, .unset]) rfl ?_
        refine XS.goto X4.here hx rfl (pc0 := 83) (pc' := 106) rfl (hb hby at_83) (by decide) (by decide) ?_
        exact k
      obtain ⟨T5, h5, X5, e5, E5, A5, D5, U5, st5⟩ := newO X4 hx hZ hown (wq hw 1 rfl) (wq hw 2 rfl) (wq hw 3 rfl) e4 (g := (mkF m 106 #[vi p0, vi p1, vi p2, vi p3, vi p4, vi x0, vi x1, vi x2, vi (Int32.ofNat 2), vr b2, .unset, .unset, .unset, .unset, .unset, .unset, .unset, .unset, .unset, .unset, .unset, .unset, .unset] [])) rfl (hb hby at_106) (by decide) (by decide)
      obtain ⟨b5, g5⟩ : ∃ z, z = h4.size := ⟨_, rfl⟩
      rw [← g5] at A5 D5 U5 st5
      refine OJ.st st5 ?_
      have ne_b2_b5 : b2 ≠ b5 := Nat.ne_of_lt (Nat.lt_of_lt_of_le V_b2_4.lt (Nat.le_of_eq g5.symm))
      have ge_b5 : Z.heap.size ≤ b5 := Nat.le_trans O0.1 (Nat.le_of_eq g5.symm)
      have S_b5 : Safe Z EL vm0 h4 b5 := Safe.new (Nat.le_of_eq g5.symm)
      replace V_b2_4 := V_b2_4.ext E5
      have S_b2' : Safe Z EL vm0 h5 b2 := Safe.ext E5 A0.1 S_b2
      have S_b5' : Safe Z EL vm0 h5 b5 := Safe.ext E5 A0.1 S_b5
      have A' : CHr Z EL s.vm s.heap vm0 h5 := A0.trans (CHr.ext E5 A0.1)
      replace S_b2 := S_b2'
      replace S_b5 := S_b5'
      replace A0 := A'
      replace hk0 := Nat.le_trans hk0 E5.1
      replace O0 : Ext Z.heap h5 := ext_trans O0 E5
      have F_value_b5 : Fld Z h5 b5 "java/lang/String" "value" "[B" .null := D5 (Or.inr (wq hw 16 rfl)) (ty := (.array .byte)) (by decide)
      have F_coder_b5 : Fld Z h5 b5 "java/lang/String" "coder" "B" (.int 0) := D5 (Or.inr (wq hw 17 rfl)) (ty := .byte) (by decide)
      refine OJ.st (S' := T5.setTop (mkF m 112 #[vi p0, vi p1, vi p2, vi p3, vi p4, vi x0, vi x1, vi x2, vi (Int32.ofNat 2), vr b2, .unset, .unset, .unset, .unset, .unset, .unset, .unset, .unset, .unset, .unset, .unset, .unset, .unset] [(.ref b2), (.ref b5), (.ref b5)])) (fun _ k => ?_) ?_
      · refine XS.dup X5.here hx rfl (hb hby at_109) rfl rfl ?_
        refine XS.aload X5.here hx rfl (hb hby at_110) rfl rfl ?_
        exact k
      simp only [nar_char (x := x0) hx0, nar_char (x := x1) hx1] at V_b2_4
      have hp6 : ∀ c ∈ ([x0, x1] : List Int32), ¬ c < 0 ∧ ¬ (255 : Int32) < c := by
        intro c hc; simp only [List.mem_cons, List.not_mem_nil, or_false] at hc
        rcases hc with rfl | rfl
        · exact hx0
        · exact hx1
      obtain ⟨_, T7, h7, L7, X7, e7, hQ7, st7⟩ := specC X5 hx hZ rfl hown (wq hw 4 rfl) (wq hw 5 rfl) (wq hw 6 rfl) (by decide) (kc := 1) (ks := 2) (SB.of (Q := StrChars.Road.QV Z b5 (2 : Int32) (([x0, x1] : List Int32).map (fun c => c.toInt8.toInt32)) h5 Z.heap.size) (StrChars.Road.backV (W := 1) hZ hws (kI := 4) (wq hw 2 rfl) (cs := ([x0, x1] : List Int32)) (bs := (([x0, x1] : List Int32).map (fun c => c.toInt8.toInt32))) (n := 2) ge_b5 O0.1 A5 F_value_b5 F_coder_b5 V_b2_4 (S_CS.ext O0) hcz rfl rfl (by decide) (by decide) hp6 rfl (by decide) (by decide))) e5 (a := b5) (g := (mkF m 112 #[vi p0, vi p1, vi p2, vi p3, vi p4, vi x0, vi x1, vi x2, vi (Int32.ofNat 2), vr b2, .unset, .unset, .unset, .unset, .unset, .unset, .unset, .unset, .unset, .unset, .unset, .unset, .unset] [(.ref b2), (.ref b5), (.ref b5)])) rfl (by rw [hml]; rfl) (argsL := [(.ref b2)]) (rest := [(.ref b5)]) (lenOf pd_28 rfl) rfl (by show 2 * 0 + _ ≤ _; exact Nat.le_of_eq rfl) (hb hby at_112) (by decide) (by decide)
      obtain ⟨rfl, Nq7, Kq7, Eq7, Fc7, t7, kb7, gq7, szq7, nq7, Fv7, V7⟩ := hQ7
      refine OJ.st st7 ?_
      replace N0 := Fr.app N0 Nq7
      have ne_b2_t7 : b2 ≠ t7 := Nat.ne_of_lt (Nat.lt_of_lt_of_le V_b2_4.lt szq7)
      have ne_b5_t7 : b5 ≠ t7 := Nat.ne_of_lt (Nat.lt_of_lt_of_le A5.lt szq7)
      have ge_t7 : Z.heap.size ≤ t7 := Nat.le_trans O0.1 szq7
      have S_t7 : Safe Z EL vm0 h5 t7 := Safe.new szq7
      replace V_b2_4 := V_b2_4.keep Kq7 (ninS ne_b2_b5 nin0)
      replace A5 := A5.keep Kq7
      have S_b2' : Safe Z EL vm0 h7 b2 := Safe.keep Kq7 (sfS S_b5 sf0) A0.1 S_b2
      have S_b5' : Safe Z EL vm0 h7 b5 := Safe.keep Kq7 (sfS S_b5 sf0) A0.1 S_b5
      have S_t7' : Safe Z EL vm0 h7 t7 := Safe.keep Kq7 (sfS S_b5 sf0) A0.1 S_t7
      have A' : CHr Z EL s.vm s.heap vm0 h7 := A0.trans (CHr.keep Kq7 (sfS S_b5 sf0) A0.1)
      replace S_b2 := S_b2'
      replace S_b5 := S_b5'
      replace S_t7 := S_t7'
      replace A0 := A'
      replace hk0 := Nat.le_trans hk0 Kq7.1
      replace O0 : Ext Z.heap h7 := ext_keep O0 Kq7 (allS ge_b5 all0)
      replace V7 : Arv Z h7 t7 kb7 .byte (Int32.ofNat 2) [(.int (x0).toInt8.toInt32), (.int (x1).toInt8.toInt32)] (.int 0) := V7
      clear V_b2_4
      refine OJ.st (S' := T7.setTop (mkF m 117 #[vi p0, vi p1, vi p2, vi p3, vi p4, vi x0, vi x1, vi x2, vi (Int32.ofNat 2), vr b2, vr b5, .unset, .unset, .unset, .unset, .unset, .unset, .unset, .unset, .unset, .unset, .unset, .unset] [])) (fun _ k => ?_) ?_
      · refine XS.astore X7.here hx rfl (hb hby at_115) rfl rfl (l' := #[vi p0, vi p1, vi p2, vi p3, vi p4, vi x0, vi x1, vi x2, vi (Int32.ofNat 2), vr b2, vr b5, .unset, .unset, .unset, .unset, .unset, .unset, .unset, .unset, .unset, .unset, .unset, .unset]) rfl ?_
        exact k
      exact OJ.here ⟨b5, b2, t7, kb7, T7, h7, vm0, _, _, ⟨A5, Fc7, Fv7, V7⟩, X7.more (by decide) (by decide), e7, hS0, hk0, hZ, hown, A0, O0, N0, rfl⟩
    · refine OJ.st (S' := T0.setTop (mkF m 87 #[vi p0, vi p1, vi p2, vi p3, vi p4, vi x0, vi x1, vi x2, vi (Int32.ofNat 3), .unset, .unset, .unset, .unset, .unset, .unset, .unset, .unset, .unset, .unset, .unset, .unset, .unset, .unset] [(.int 3)])) (fun _ k => ?_) ?_
      · refine XS.iload X0.here hx rfl (hb hby at_30) rfl ?_
        refine XS.ifYes X0.here hx rfl (pc0 := 32) (pc' := 43) rfl (hb hby at_32) rfl ((if0 _ _).trans (feq (by decide)).2) (by decide) (by decide) ?_
        refine XS.iload X0.here hx rfl (hb hby at_43) rfl ?_
        refine XS.iconst X0.here hx rfl (hb hby at_45) ?_
        show Steps p.tables e below (T0.setTop (mkF m 46 #[vi p0, vi p1, vi p2, vi p3, vi p4, vi x0, vi x1, vi x2, vi (Int32.ofNat 3), .unset, .unset, .unset, .unset, .unset, .unset, .unset, .unset, .unset, .unset, .unset, .unset, .unset, .unset] [(.int 1), (.int (Int32.ofNat 3))])) _
        refine XS.icmpYes X0.here hx rfl (pc0 := 46) (pc' := 62) rfl (hb hby at_46) rfl (feq (by decide)).2 (by decide) (by decide) ?_
        refine XS.iload X0.here hx rfl (hb hby at_62) rfl ?_
        refine XS.iconst X0.here hx rfl (hb hby at_64) ?_
        refine XS.icmpYes X0.here hx rfl (pc0 := 65) (pc' := 86) rfl (hb hby at_65) rfl (feq (by decide)).2 (by decide) (by decide) ?_
        show Steps p.tables e below (T0.setTop (mkF m 86 #[vi p0, vi p1, vi p2, vi p3, vi p4, vi x0, vi x1, vi x2, vi (Int32.ofNat 3), .unset, .unset, .unset, .unset, .unset, .unset, .unset, .unset, .unset, .unset, .unset, .unset, .unset, .unset] [])) _
        refine XS.iconst X0.here hx rfl (hb hby at_86) ?_
        exact k
      obtain ⟨T2, h2, k2, X2, e2, E2, A2, st2⟩ := newP X0 hx hZ (wq hw 0 rfl) e0 (g := (mkF m 87 #[vi p0, vi p1, vi p2, vi p3, vi p4, vi x0, vi x1, vi x2, vi (Int32.ofNat 3), .unset, .unset, .unset, .unset, .unset, .unset, .unset, .unset, .unset, .unset, .unset, .unset, .unset, .unset] [(.int 3)])) rfl (hb hby at_87) rfl (by decide) (cap := 3) (by decide) (by decide) (by decide) (by decide)
      obtain ⟨b2, g2⟩ : ∃ z, z = h0.size := ⟨_, rfl⟩
      rw [← g2] at A2 st2
      refine OJ.st st2 ?_
      have ge_b2 : Z.heap.size ≤ b2 := Nat.le_trans O0.1 (Nat.le_of_eq g2.symm)
      have S_b2 : Safe Z EL vm0 h0 b2 := Safe.new (Nat.le_of_eq g2.symm)
      have S_b2' : Safe Z EL vm0 h2 b2 := Safe.ext E2 A0.1 S_b2
      have A' : CHr Z EL s.vm s.heap vm0 h2 := A0.trans (CHr.ext E2 A0.1)
      replace S_b2 := S_b2'
      replace A0 := A'
      replace hk0 := Nat.le_trans hk0 E2.1
      replace O0 : Ext Z.heap h2 := ext_trans O0 E2
      have V_b2 : Arv Z h2 b2 k2 .char (3 : Int32) [(.int 0), (.int 0), (.int 0)] (.int 0) := (Arv.new A2 (by decide)).pad (pad_rep [] (.int 0) 3)
      refine OJ.st (S' := T2.setTop (mkF m 93 #[vi p0, vi p1, vi p2, vi p3, vi p4, vi x0, vi x1, vi x2, vi (Int32.ofNat 3), .unset, .unset, .unset, .unset, .unset, .unset, .unset, .unset, .unset, .unset, .unset, .unset, .unset, .unset] [(.int x0), (.int 0), (.ref b2), (.ref b2)])) (fun _ k => ?_) ?_
      · refine XS.dup X2.here hx rfl (hb hby at_89) rfl rfl ?_
        refine XS.iconst X2.here hx rfl (hb hby at_90) ?_
        refine XS.iload X2.here hx rfl (hb hby at_91) rfl ?_
        exact k
      obtain ⟨cl_b2_3, Ar_b2_3, q_b2_3, S_b2_3, N_b2_3, H_b2_3, G_b2_3⟩ := V_b2
      obtain ⟨T3, h3, X3, e3, W3, st3⟩ := stC X2 hx hZ e2 Ar_b2_3 (j := (0 : Int32)) (inb_of S_b2_3 ⟨by decide, by decide⟩) (g := (mkF m 93 #[vi p0, vi p1, vi p2, vi p3, vi p4, vi x0, vi x1, vi x2, vi (Int32.ofNat 3), .unset, .unset, .unset, .unset, .unset, .unset, .unset, .unset, .unset, .unset, .unset, .unset, .unset, .unset] [(.int x0), (.int 0), (.ref b2), (.ref b2)])) rfl rfl (hb hby at_93)
      have V_b2_3 : Arv Z h3 b2 k2 .char (3 : Int32) [(.int (nar .char x0)), (.int 0), (.int 0)] (.int 0) := Arv.set Ar_b2_3 q_b2_3 S_b2_3 N_b2_3 H_b2_3 G_b2_3 (fits_nar_char _) W3 0 rfl (Nat.le_of_ble_eq_true rfl)
      refine OJ.st st3 ?_
      have S_b2' : Safe Z EL vm0 h3 b2 := Safe.wr W3 S_b2 A0.1 S_b2
      have A' : CHr Z EL s.vm s.heap vm0 h3 := A0.trans (CHr.wr W3 S_b2 A0.1)
      replace S_b2 := S_b2'
      replace A0 := A'
      replace hk0 := Nat.le_trans hk0 (Keep.of_wr W3).1
      replace O0 : Ext Z.heap h3 := ext_wr O0 W3 ge_b2
      replace N0 := Fr.snoc X3 N0 ge_b2
      refine OJ.st (S' := T3.setTop (mkF m 98 #[vi p0, vi p1, vi p2, vi p3, vi p4, vi x0, vi x1, vi x2, vi (Int32.ofNat 3), .unset, .unset, .unset, .unset, .unset, .unset, .unset, .unset, .unset, .unset, .unset, .unset, .unset, .unset] [(.int x1), (.int 1), (.ref b2), (.ref b2)])) (fun _ k => ?_) ?_
      · refine XS.dup X3.here hx rfl (hb hby at_94) rfl rfl ?_
        refine XS.iconst X3.here hx rfl (hb hby at_95) ?_
        refine XS.iload X3.here hx rfl (hb hby at_96) rfl ?_
        exact k
      obtain ⟨cl_b2_4, Ar_b2_4, q_b2_4, S_b2_4, N_b2_4, H_b2_4, G_b2_4⟩ := V_b2_3
      obtain ⟨T4, h4, X4, e4, W4, st4⟩ := stC X3 hx hZ e3 Ar_b2_4 (j := (1 : Int32)) (inb_of S_b2_4 ⟨by decide, by decide⟩) (g := (mkF m 98 #[vi p0, vi p1, vi p2, vi p3, vi p4, vi x0, vi x1, vi x2, vi (Int32.ofNat 3), .unset, .unset, .unset, .unset, .unset, .unset, .unset, .unset, .unset, .unset, .unset, .unset, .unset, .unset] [(.int x1), (.int 1), (.ref b2), (.ref b2)])) rfl rfl (hb hby at_98)
      have V_b2_4 : Arv Z h4 b2 k2 .char (3 : Int32) [(.int (nar .char x0)), (.int (nar .char x1)), (.int 0)] (.int 0) := Arv.set Ar_b2_4 q_b2_4 S_b2_4 N_b2_4 H_b2_4 G_b2_4 (fits_nar_char _) W4 1 rfl (Nat.le_of_ble_eq_true rfl)
      refine OJ.st st4 ?_
      have S_b2' : Safe Z EL vm0 h4 b2 := Safe.wr W4 S_b2 A0.1 S_b2
      have A' : CHr Z EL s.vm s.heap vm0 h4 := A0.trans (CHr.wr W4 S_b2 A0.1)
      replace S_b2 := S_b2'
      replace A0 := A'
      replace hk0 := Nat.le_trans hk0 (Keep.of_wr W4).1
      replace O0 : Ext Z.heap h4 := ext_wr O0 W4 ge_b2
      replace N0 := Fr.snoc X4 N0 ge_b2
      refine OJ.st (S' := T4.setTop (mkF m 103 #[vi p0, vi p1, vi p2, vi p3, vi p4, vi x0, vi x1, vi x2, vi (Int32.ofNat 3), .unset, .unset, .unset, .unset, .unset, .unset, .unset, .unset, .unset, .unset, .unset, .unset, .unset, .unset] [(.int x2), (.int 2), (.ref b2), (.ref b2)])) (fun _ k => ?_) ?_
      · refine XS.dup X4.here hx rfl (hb hby at_99) rfl rfl ?_
        refine XS.iconst X4.here hx rfl (hb hby at_100) ?_
        refine XS.iload X4.here hx rfl (hb hby at_101) rfl ?_
        exact k
      obtain ⟨cl_b2_5, Ar_b2_5, q_b2_5, S_b2_5, N_b2_5, H_b2_5, G_b2_5⟩ := V_b2_4
      obtain ⟨T5, h5, X5, e5, W5, st5⟩ := stC X4 hx hZ e4 Ar_b2_5 (j := (2 : Int32)) (inb_of S_b2_5 ⟨by decide, by decide⟩) (g := (mkF m 103 #[vi p0, vi p1, vi p2, vi p3, vi p4, vi x0, vi x1, vi x2, vi (Int32.ofNat 3), .unset, .unset, .unset, .unset, .unset, .unset, .unset, .unset, .unset, .unset, .unset, .unset, .unset, .unset] [(.int x2), (.int 2), (.ref b2), (.ref b2)])) rfl rfl (hb hby at_103)
      have V_b2_5 : Arv Z h5 b2 k2 .char (3 : Int32) [(.int (nar .char x0)), (.int (nar .char x1)), (.int (nar .char x2))] (.int 0) := Arv.set Ar_b2_5 q_b2_5 S_b2_5 N_b2_5 H_b2_5 G_b2_5 (fits_nar_char _) W5 2 rfl (Nat.le_of_ble_eq_true rfl)
      refine OJ.st st5 ?_
      have S_b2' : Safe Z EL vm0 h5 b2 := Safe.wr W5 S_b2 A0.1 S_b2
      have A' : CHr Z EL s.vm s.heap vm0 h5 := A0.trans (CHr.wr W5 S_b2 A0.1)
      replace S_b2 := S_b2'
      replace A0 := A'
      replace hk0 := Nat.le_trans hk0 (Keep.of_wr W5).1
      replace O0 : Ext Z.heap h5 := ext_wr O0 W5 ge_b2
      replace N0 := Fr.snoc X5 N0 ge_b2
      refine OJ.st (S' := T5.setTop (mkF m 106 #[vi p0, vi p1, vi p2, vi p3, vi p4, vi x0, vi x1, vi x2, vi (Int32.ofNat 3), vr b2, .unset, .unset, .unset, .unset, .unset, .unset, .unset, .unset, .unset, .unset, .unset, .unset, .unset] [])) (fun _ k => ?_) ?_
      · refine XS.astore X5.here hx rfl (hb hby at_104) rfl rfl (l' := #[vi p0, vi p1, vi p2, vi p3, vi p4, vi x0, vi x1, vi x2, vi (Int32.ofNat 3), vr b2, .unset, .unset, .unset, .unset, .unset, .unset, .unset, .unset, .unset, .unset, .unset, .unset, .unset]) rfl ?_
        exact k
      obtain ⟨T6, h6, X6, e6, E6, A6, D6, U6, st6⟩ := newO X5 hx hZ hown (wq hw 1 rfl) (wq hw 2 rfl) (wq hw 3 rfl) e5 (g := (mkF m 106 #[vi p0, vi p1, vi p2, vi p3, vi p4, vi x0, vi x1, vi x2, vi (Int32.ofNat 3), vr b2, .unset, .unset, .unset, .unset, .unset, .unset, .unset, .unset, .unset, .unset, .unset, .unset, .unset] [])) rfl (hb hby at_106) (by decide) (by decide)
      obtain ⟨b6, g6⟩ : ∃ z, z = h5.size := ⟨_, rfl⟩
      rw [← g6] at A6 D6 U6 st6
      refine OJ.st st6 ?_
      have ne_b2_b6 : b2 ≠ b6 := Nat.ne_of_lt (Nat.lt_of_lt_of_le V_b2_5.lt (Nat.le_of_eq g6.symm))
      have ge_b6 : Z.heap.size ≤ b6 := Nat.le_trans O0.1 (Nat.le_of_eq g6.symm)
      have S_b6 : Safe Z EL vm0 h5 b6 := Safe.new (Nat.le_of_eq g6.symm)
      replace V_b2_5 := V_b2_5.ext E6
      have S_b2' : Safe Z EL vm0 h6 b2 := Safe.ext E6 A0.1 S_b2
      have S_b6' : Safe Z EL vm0 h6 b6 := Safe.ext E6 A0.1 S_b6
      have A' : CHr Z EL s.vm s.heap vm0 h6 := A0.trans (CHr.ext E6 A0.1)
      replace S_b2 := S_b2'
      replace S_b6 := S_b6'
      replace A0 := A'
      replace hk0 := Nat.le_trans hk0 E6.1
      replace O0 : Ext Z.heap h6 := ext_trans O0 E6
      have F_value_b6 : Fld Z h6 b6 "java/lang/String" "value" "[B" .null := D6 (Or.inr (wq hw 16 rfl)) (ty := (.array .byte)) (by decide)
      have F_coder_b6 : Fld Z h6 b6 "java/lang/String" "coder" "B" (.int 0) := D6 (Or.inr (wq hw 17 rfl)) (ty := .byte) (by decide)
      refine OJ.st (S' := T6.setTop (mkF m 112 #[vi p0, vi p1, vi p2, vi p3, vi p4, vi x0, vi x1, vi x2, vi (Int32.ofNat 3), vr b2, .unset, .unset, .unset, .unset, .unset, .unset, .unset, .unset, .unset, .unset, .unset, .unset, .unset] [(.ref b2), (.ref b6), (.ref b6)])) (fun _ k => ?_) ?_
      · refine XS.dup X6.here hx rfl (hb hby at_109) rfl rfl ?_
        refine XS.aload X6.here hx rfl (hb hby at_110) rfl rfl ?_
        exact k
      simp only [nar_char (x := x0) hx0, nar_char (x := x1) hx1, nar_char (x := x2) hx2] at V_b2_5
      have hp7 : ∀ c ∈ ([x0, x1, x2] : List Int32), ¬ c < 0 ∧ ¬ (255 : Int32) < c := by
        intro c hc; simp only [List.mem_cons, List.not_mem_nil, or_false] at hc
        rcases hc with rfl | rfl | rfl
        · exact hx0
        · exact hx1
        · exact hx2
      obtain ⟨_, T8, h8, L8, X8, e8, hQ8, st8⟩ := specC X6 hx hZ rfl hown (wq hw 4 rfl) (wq hw 5 rfl) (wq hw 6 rfl) (by decide) (kc := 1) (ks := 3) (SB.of (Q := StrChars.Road.QV Z b6 (3 : Int32) (([x0, x1, x2] : List Int32).map (fun c => c.toInt8.toInt32)) h6 Z.heap.size) (StrChars.Road.backV (W := 1) hZ hws (kI := 4) (wq hw 2 rfl) (cs := ([x0, x1, x2] : List Int32)) (bs := (([x0, x1, x2] : List Int32).map (fun c => c.toInt8.toInt32))) (n := 3) ge_b6 O0.1 A6 F_value_b6 F_coder_b6 V_b2_5 (S_CS.ext O0) hcz rfl rfl (by decide) (by decide) hp7 rfl (by decide) (by decide))) e6 (a := b6) (g := (mkF m 112 #[vi p0, vi p1, vi p2, vi p3, vi p4, vi x0, vi x1, vi x2, vi (Int32.ofNat 3), vr b2, .unset, .unset, .unset, .unset, .unset, .unset, .unset, .unset, .unset, .unset, .unset, .unset, .unset] [(.ref b2), (.ref b6), (.ref b6)])) rfl (by rw [hml]; rfl) (argsL := [(.ref b2)]) (rest := [(.ref b6)]) (lenOf pd_28 rfl) rfl (by show 2 * 0 + _ ≤ _; exact Nat.le_of_eq rfl) (hb hby at_112) (by decide) (by decide)
      obtain ⟨rfl, Nq8, Kq8, Eq8, Fc8, t8, kb8, gq8, szq8, nq8, Fv8, V8⟩ := hQ8
      refine OJ.st st8 ?_
      replace N0 := Fr.app N0 Nq8
      have ne_b2_t8 : b2 ≠ t8 := Nat.ne_of_lt (Nat.lt_of_lt_of_le V_b2_5.lt szq8)
      have ne_b6_t8 : b6 ≠ t8 := Nat.ne_of_lt (Nat.lt_of_lt_of_le A6.lt szq8)
      have ge_t8 : Z.heap.size ≤ t8 := Nat.le_trans O0.1 szq8
      have S_t8 : Safe Z EL vm0 h6 t8 := Safe.new szq8
      replace V_b2_5 := V_b2_5.keep Kq8 (ninS ne_b2_b6 nin0)
      replace A6 := A6.keep Kq8
      have S_b2' : Safe Z EL vm0 h8 b2 := Safe.keep Kq8 (sfS S_b6 sf0) A0.1 S_b2
      have S_b6' : Safe Z EL vm0 h8 b6 := Safe.keep Kq8 (sfS S_b6 sf0) A0.1 S_b6
      have S_t8' : Safe Z EL vm0 h8 t8 := Safe.keep Kq8 (sfS S_b6 sf0) A0.1 S_t8
      have A' : CHr Z EL s.vm s.heap vm0 h8 := A0.trans (CHr.keep Kq8 (sfS S_b6 sf0) A0.1)
      replace S_b2 := S_b2'
      replace S_b6 := S_b6'
      replace S_t8 := S_t8'
      replace A0 := A'
      replace hk0 := Nat.le_trans hk0 Kq8.1
      replace O0 : Ext Z.heap h8 := ext_keep O0 Kq8 (allS ge_b6 all0)
      replace V8 : Arv Z h8 t8 kb8 .byte (Int32.ofNat 3) [(.int (x0).toInt8.toInt32), (.int (x1).toInt8.toInt32), (.int (x2).toInt8.toInt32)] (.int 0) := V8
      clear V_b2_5
      refine OJ.st (S' := T8.setTop (mkF m 117 #[vi p0, vi p1, vi p2, vi p3, vi p4, vi x0, vi x1, vi x2, vi (Int32.ofNat 3), vr b2, vr b6, .unset, .unset, .unset, .unset, .unset, .unset, .unset, .unset, .unset, .unset, .unset, .unset] [])) (fun _ k => ?_) ?_
      · refine XS.astore X8.here hx rfl (hb hby at_115) rfl rfl (l' := #[vi p0, vi p1, vi p2, vi p3, vi p4, vi x0, vi x1, vi x2, vi (Int32.ofNat 3), vr b2, vr b6, .unset, .unset, .unset, .unset, .unset, .unset, .unset, .unset, .unset, .unset, .unset, .unset]) rfl ?_
        exact k
      exact OJ.here ⟨b6, b2, t8, kb8, T8, h8, vm0, _, _, ⟨A6, Fc8, Fv8, V8⟩, X8.more (by decide) (by decide), e8, hS0, hk0, hZ, hown, A0, O0, N0, rfl⟩
  refine OEndsH.st st1 ?_
  obtain ⟨E_tp, Fc_tp, Fv_tp, V_tt⟩ := fj1
  obtain ⟨ct, hct⟩ : ∃ l, l = (List.take tn [x0, x1, x2]) := ⟨_, rfl⟩
  rw [← hct] at V_tt
  have hcs : ct.length = tn := by rw [hct]; simp; omega
  have hbd : ∀ c ∈ ct, ¬ c < 0 ∧ ¬ (255 : Int32) < c := fun c hc => by
    rw [hct] at hc
    have hc := List.mem_of_mem_take hc
    simp only [List.mem_cons, List.not_mem_nil, or_false] at hc
    rcases hc with rfl | rfl | rfl
    · exact hx0
    · exact hx1
    · exact hx2
  have htp : ct.length ≤ 3 := by rw [hcs]; exact htn
  obtain ⟨sg, A, d, hS, hDig, hAb, hsg⟩ := sg_ex p0
  have hd10 := hDig.2.1
  obtain ⟨T2, h2, X2, e2, E2, A2, D2, U2, st2⟩ := newO X1 hx hZ1 hown1 (wq hw 22 rfl) (wq hw 23 rfl) (wq hw 24 rfl) e1 (g := (mkF m 117 #[vi p0, vi p1, vi p2, vi p3, vi p4, vi x0, vi x1, vi x2, vi (Int32.ofNat tn), vr ca, vr tp, .unset, .unset, .unset, .unset, .unset, .unset, .unset, .unset, .unset, .unset, .unset, .unset] [])) rfl (hb hby at_117) (by decide) (by decide)
  obtain ⟨b2, g2⟩ : ∃ z, z = h1.size := ⟨_, rfl⟩
  rw [← g2] at A2 D2 U2 st2
  refine OEndsH.st st2 ?_
  have ne_tp_b2 : tp ≠ b2 := Nat.ne_of_lt (Nat.lt_of_lt_of_le E_tp.lt (Nat.le_of_eq g2.symm))
  have ne_tt_b2 : tt ≠ b2 := Nat.ne_of_lt (Nat.lt_of_lt_of_le V_tt.lt (Nat.le_of_eq g2.symm))
  have ge_b2 : Z.heap.size ≤ b2 := Nat.le_trans O1.1 (Nat.le_of_eq g2.symm)
  have S_b2 : Safe Z EL vm1 h1 b2 := Safe.new (Nat.le_of_eq g2.symm)
  replace E_tp := E_tp.ext E2
  replace Fc_tp := Fc_tp.ext E2
  replace Fv_tp := Fv_tp.ext E2
  replace V_tt := V_tt.ext E2
  have S_b2' : Safe Z EL vm1 h2 b2 := Safe.ext E2 A1.1 S_b2
  have A' : CHr Z EL s.vm s.heap vm1 h2 := A1.trans (CHr.ext E2 A1.1)
  replace S_b2 := S_b2'
  replace A1 := A'
  replace hk1 := Nat.le_trans hk1 E2.1
  replace O1 : Ext Z.heap h2 := ext_trans O1 E2
  have F_topic_b2 : Fld Z h2 b2 "com/example/wire_to_worker/wiretoworker/broker/QueueName" "topic" "Ljava/lang/String;" .null := D2 (Or.inr (wq hw 35 rfl)) (ty := (.object "java/lang/String")) (by decide)
  have F_queueId_b2 : Fld Z h2 b2 "com/example/wire_to_worker/wiretoworker/broker/QueueName" "queueId" "I" (.int 0) := D2 (Or.inr (wq hw 37 rfl)) (ty := .int) (by decide)
  refine OEndsH.st (S' := T2.setTop (mkF m 124 #[vi p0, vi p1, vi p2, vi p3, vi p4, vi x0, vi x1, vi x2, vi (Int32.ofNat tn), vr ca, vr tp, .unset, .unset, .unset, .unset, .unset, .unset, .unset, .unset, .unset, .unset, .unset, .unset] [(.int p0), (.ref tp), (.ref b2), (.ref b2)])) (fun _ k => ?_) ?_
  · refine XS.dup X2.here hx rfl (hb hby at_120) rfl rfl ?_
    refine XS.aload X2.here hx rfl (hb hby at_121) rfl rfl ?_
    refine XS.iloadN X2.here hx rfl (hb hby at_123) rfl ?_
    exact k
  obtain ⟨_, T3, h3, L3, X3, e3, hQ3, st3⟩ := specC X2 hx hZ1 rfl hown1 (wq hw 25 rfl) (wq hw 26 rfl) (wq hw 27 rfl) (by decide) (kc := 0) (ks := 0) (Con.sb (W := 1) (rm_qnInit l hD b2 tp p0 O1 A2 F_topic_b2 F_queueId_b2 ge_b2) hZ1 (wq hw 27 rfl) (wq hw 24 rfl) (by decide) (by decide)) e2 (a := b2) (g := (mkF m 124 #[vi p0, vi p1, vi p2, vi p3, vi p4, vi x0, vi x1, vi x2, vi (Int32.ofNat tn), vr ca, vr tp, .unset, .unset, .unset, .unset, .unset, .unset, .unset, .unset, .unset, .unset, .unset, .unset] [(.int p0), (.ref tp), (.ref b2), (.ref b2)])) rfl (by rw [hml]; rfl) (argsL := [(.ref tp), (.int p0)]) (rest := [(.ref b2)]) (lenOf pd_29 rfl) rfl (by show 2 * 0 + _ ≤ _; exact Nat.le_of_eq rfl) (hb hby at_124) (by decide) (by decide)
  obtain ⟨rfl, Nq3, Kq3, Eq3, Ft3, Fi3⟩ := hQ3
  refine OEndsH.st st3 ?_
  replace N1 := Fr.app N1 Nq3
  replace E_tp := E_tp.keep Kq3
  replace Fc_tp := Fc_tp.keep Kq3 (ninS ne_tp_b2 nin0)
  replace Fv_tp := Fv_tp.keep Kq3 (ninS ne_tp_b2 nin0)
  replace V_tt := V_tt.keep Kq3 (ninS ne_tt_b2 nin0)
  replace A2 := A2.keep Kq3
  have S_b2' : Safe Z EL vm1 h3 b2 := Safe.keep Kq3 (sfS S_b2 sf0) A1.1 S_b2
  have A' : CHr Z EL s.vm s.heap vm1 h3 := A1.trans (CHr.keep Kq3 (sfS S_b2 sf0) A1.1)
  replace S_b2 := S_b2'
  replace A1 := A'
  replace hk1 := Nat.le_trans hk1 Kq3.1
  replace O1 : Ext Z.heap h3 := ext_keep O1 Kq3 (allS ge_b2 all0)
  obtain ⟨_, T4, h4, L4, vm4, k14, X4, e4, hQ4, hS4, hk4, hZ4, hown4, Aq4, st4⟩ := virtH X3 hx hZ1 (y := (⟨"com/example/wire_to_worker/wiretoworker/broker/QueueName", "toString", "()Ljava/lang/String;"⟩ : MethodName)) (z := (⟨"com/example/wire_to_worker/wiretoworker/broker/QueueName", "toString", "()Ljava/lang/String;"⟩ : MethodName)) hown1 (wq hw 38 rfl) (wq hw 39 rfl) (nf_sel (args := #[]) (mvT hZ1 (wq hw 41 rfl)) rfl) (wq hw 41 rfl) (wq hw 40 rfl) (by decide) (kc := 9) (ks := 163) (ConH.sb (W := 0) (rm_qnStr l hD b2 tp tt kt p0 tn sg A d ct O1 A2 Ft3 Fi3 E_tp Fc_tp Fv_tp V_tt hcs htn hDig hS hAb hsg) hZ1 (wq hw 42 rfl) (wq hw 24 rfl) (by decide) (by decide) hEL A1.1 all0) e3 hS1 hk1 A2 (g := (mkF m 127 #[vi p0, vi p1, vi p2, vi p3, vi p4, vi x0, vi x1, vi x2, vi (Int32.ofNat tn), vr ca, vr tp, .unset, .unset, .unset, .unset, .unset, .unset, .unset, .unset, .unset, .unset, .unset, .unset] [(.ref b2)])) rfl (by rw [hml]; rfl) (argsL := []) (rest := []) (lenOf pd_22 rfl) rfl (by show 2 * 0 + _ ≤ _; exact Nat.le_of_eq rfl) (hb hby at_127) (by decide) (by decide)
  obtain ⟨r4, rfl, Nq4, Kq4, Eq4, Fc4, tq4, kq4, Fv4, V4⟩ := hQ4
  replace S_b2 : Safe Z EL vm4 h4 b2 := Aq4.safe A2.lt S_b2
  replace A1 : CHr Z EL s.vm s.heap vm4 h4 := A1.trans Aq4
  refine OEndsH.st st4 ?_
  replace N1 := Fr.app N1 Nq4
  replace E_tp := E_tp.keep Kq4
  replace Fc_tp := Fc_tp.keep Kq4 nin0
  replace Fv_tp := Fv_tp.keep Kq4 nin0
  replace V_tt := V_tt.keep Kq4 nin0
  replace A2 := A2.keep Kq4
  replace Ft3 := Ft3.keep Kq4 nin0
  replace Fi3 := Fi3.keep Kq4 nin0
  replace O1 : Ext Z.heap h4 := ext_keep O1 Kq4 all0
  clear E_tp
  clear Fc_tp
  clear Fv_tp
  clear V_tt
  clear A2
  clear Ft3
  clear Fi3
  have hql : (qs sg A d ct).length ≤ 4000 := by rw [qs_len, hcs]; omega
  have hqb := qs_bd (sg := sg) (A := A) (d := d) hbd
  refine OEndsH.st (S' := T4.setTop (mkF m 140 #[vi p0, vi p1, vi p2, vi p3, vi p4, vi x0, vi x1, vi x2, vi (Int32.ofNat tn), vr ca, vr tp, vr r4, vj (p0.toInt64), .second, .unset, .unset, .unset, .unset, .unset, .unset, .unset, .unset, .unset] [(.int (lcmpW (p0.toInt64) (0 : Int64)))])) (fun _ k => ?_) ?_
  · refine XS.astore X4.here hx rfl (hb hby at_130) rfl rfl (l' := #[vi p0, vi p1, vi p2, vi p3, vi p4, vi x0, vi x1, vi x2, vi (Int32.ofNat tn), vr ca, vr tp, vr r4, .unset, .unset, .unset, .unset, .unset, .unset, .unset, .unset, .unset, .unset, .unset]) rfl ?_
    refine XS.iloadN X4.here hx rfl (hb hby at_132) rfl ?_
    refine XS.i2l X4.here hx rfl (hb hby at_133) rfl ?_
    refine XS.lstore X4.here hx rfl (hb hby at_134) rfl (l' := #[vi p0, vi p1, vi p2, vi p3, vi p4, vi x0, vi x1, vi x2, vi (Int32.ofNat tn), vr ca, vr tp, vr r4, vj (p0.toInt64), .second, .unset, .unset, .unset, .unset, .unset, .unset, .unset, .unset, .unset]) rfl ?_
    show Steps p.tables e below (T4.setTop (mkF m 136 #[vi p0, vi p1, vi p2, vi p3, vi p4, vi x0, vi x1, vi x2, vi (Int32.ofNat tn), vr ca, vr tp, vr r4, vj (p0.toInt64), .second, .unset, .unset, .unset, .unset, .unset, .unset, .unset, .unset, .unset] [])) _
    refine XS.lload X4.here hx rfl (hb hby at_136) rfl ?_
    refine XS.lconst X4.here hx rfl (hb hby at_138) ?_
    refine XS.lcmp X4.here hx rfl (hb hby at_139) rfl ?_
    exact k
  obtain ⟨_, ⟨y5, T5, lc5, hy5, X5, e5, N5, rfl⟩, st5⟩ : OJ p e below (fun S' => ∃ (y5 : Int32) (T' : State) (lc : List Loc), (y5 = Int32.ofNat sg) ∧ Stand p l e room_1 (s.setVm vm4) m #[(.int p0), (.int p1), (.int p2), (.int p3), (.int p4)] below meth c T' lc 16 229 ∧ T'.heap = h4 ∧ Fr Z.heap.size lc ∧ S' = T'.setTop (mkF m 148 #[vi p0, vi p1, vi p2, vi p3, vi p4, vi x0, vi x1, vi x2, vi (Int32.ofNat tn), vr ca, vr tp, vr r4, vj (p0.toInt64), .second, .unset, .unset, .unset, .unset, .unset, .unset, .unset, .unset, .unset] [(.int y5)])) (T4.setTop (mkF m 140 #[vi p0, vi p1, vi p2, vi p3, vi p4, vi x0, vi x1, vi x2, vi (Int32.ofNat tn), vr ca, vr tp, vr r4, vj (p0.toInt64), .second, .unset, .unset, .unset, .unset, .unset, .unset, .unset, .unset, .unset] [(.int (lcmpW (p0.toInt64) (0 : Int64)))])) := by
    rcases Classical.em ((lcmpW (p0.toInt64) (0 : Int64)) < (0 : Int32)) with hq | hq
    · refine OJ.st (S' := T4.setTop (mkF m 148 #[vi p0, vi p1, vi p2, vi p3, vi p4, vi x0, vi x1, vi x2, vi (Int32.ofNat tn), vr ca, vr tp, vr r4, vj (p0.toInt64), .second, .unset, .unset, .unset, .unset, .unset, .unset, .unset, .unset, .unset] [(.int 1)])) (fun _ k => ?_) ?_
      · refine XS.ifNo X4.here hx rfl (hb hby at_140) rfl ((if0 _ _).trans (tlt hq).2.1) ?_
        refine XS.iconst X4.here hx rfl (hb hby at_143) ?_
        refine XS.goto X4.here hx rfl (pc0 := 144) (pc' := 148) rfl (hb hby at_144) (by decide) (by decide) ?_
        exact k
      exact OJ.here ⟨(1 : Int32), T4, _, by rw [sg_t hS hq]; rfl, X4, e4, N1, rfl⟩
    · refine OJ.st (S' := T4.setTop (mkF m 148 #[vi p0, vi p1, vi p2, vi p3, vi p4, vi x0, vi x1, vi x2, vi (Int32.ofNat tn), vr ca, vr tp, vr r4, vj (p0.toInt64), .second, .unset, .unset, .unset, .unset, .unset, .unset, .unset, .unset, .unset] [(.int 0)])) (fun _ k => ?_) ?_
      · refine XS.ifYes X4.here hx rfl (pc0 := 140) (pc' := 147) rfl (hb hby at_140) rfl ((if0 _ _).trans (flt hq).2.1) (by decide) (by decide) ?_
        refine XS.iconst X4.here hx rfl (hb hby at_147) ?_
        exact k
      exact OJ.here ⟨(0 : Int32), T4, _, by rw [sg_f hS hq]; rfl, X4, e4, N1, rfl⟩
  refine OEndsH.st st5 ?_
  subst hy5
  refine OEndsH.st (S' := T5.setTop (mkF m 152 #[vi p0, vi p1, vi p2, vi p3, vi p4, vi x0, vi x1, vi x2, vi (Int32.ofNat tn), vr ca, vr tp, vr r4, vj (p0.toInt64), .second, vi (Int32.ofNat sg), .unset, .unset, .unset, .unset, .unset, .unset, .unset, .unset] [(.int (Int32.ofNat sg))])) (fun _ k => ?_) ?_
  · refine XS.istore X5.here hx rfl (hb hby at_148) rfl (l' := #[vi p0, vi p1, vi p2, vi p3, vi p4, vi x0, vi x1, vi x2, vi (Int32.ofNat tn), vr ca, vr tp, vr r4, vj (p0.toInt64), .second, vi (Int32.ofNat sg), .unset, .unset, .unset, .unset, .unset, .unset, .unset, .unset]) rfl ?_
    refine XS.iload X5.here hx rfl (hb hby at_150) rfl ?_
    exact k
  obtain ⟨_, ⟨y6, T6, lc6, hy6, X6, e6, N6, rfl⟩, st6⟩ : OJ p e below (fun S' => ∃ (y6 : Int64) (T' : State) (lc : List Loc), (y6 = Int64.ofNat A) ∧ Stand p l e room_1 (s.setVm vm4) m #[(.int p0), (.int p1), (.int p2), (.int p3), (.int p4)] below meth c T' lc 16 229 ∧ T'.heap = h4 ∧ Fr Z.heap.size lc ∧ S' = T'.setTop (mkF m 163 #[vi p0, vi p1, vi p2, vi p3, vi p4, vi x0, vi x1, vi x2, vi (Int32.ofNat tn), vr ca, vr tp, vr r4, vj (p0.toInt64), .second, vi (Int32.ofNat sg), .unset, .unset, .unset, .unset, .unset, .unset, .unset, .unset] [(.long y6)])) (T5.setTop (mkF m 152 #[vi p0, vi p1, vi p2, vi p3, vi p4, vi x0, vi x1, vi x2, vi (Int32.ofNat tn), vr ca, vr tp, vr r4, vj (p0.toInt64), .second, vi (Int32.ofNat sg), .unset, .unset, .unset, .unset, .unset, .unset, .unset, .unset] [(.int (Int32.ofNat sg))])) := by
    rcases Classical.em ((Int32.ofNat sg) = (0 : Int32)) with hq | hq
    · refine OJ.st (S' := T5.setTop (mkF m 163 #[vi p0, vi p1, vi p2, vi p3, vi p4, vi x0, vi x1, vi x2, vi (Int32.ofNat tn), vr ca, vr tp, vr r4, vj (p0.toInt64), .second, vi (Int32.ofNat sg), .unset, .unset, .unset, .unset, .unset, .unset, .unset, .unset] [(.long (p0.toInt64))])) (fun _ k => ?_) ?_
      · refine XS.ifYes X5.here hx rfl (pc0 := 152) (pc' := 161) rfl (hb hby at_152) rfl ((if0 _ _).trans (teq hq).1) (by decide) (by decide) ?_
        refine XS.lload X5.here hx rfl (hb hby at_161) rfl ?_
        exact k
      exact OJ.here ⟨(p0.toInt64), T5, _, a_of0 hS (sg_z hsg hq), X5, e5, N5, rfl⟩
    · refine OJ.st (S' := T5.setTop (mkF m 163 #[vi p0, vi p1, vi p2, vi p3, vi p4, vi x0, vi x1, vi x2, vi (Int32.ofNat tn), vr ca, vr tp, vr r4, vj (p0.toInt64), .second, vi (Int32.ofNat sg), .unset, .unset, .unset, .unset, .unset, .unset, .unset, .unset] [(.long (-(p0.toInt64)))])) (fun _ k => ?_) ?_
      · refine XS.ifNo X5.here hx rfl (hb hby at_152) rfl ((if0 _ _).trans (feq hq).1) ?_
        refine XS.lload X5.here hx rfl (hb hby at_155) rfl ?_
        refine XS.lneg X5.here hx rfl (hb hby at_157) rfl ?_
        refine XS.goto X5.here hx rfl (pc0 := 158) (pc' := 163) rfl (hb hby at_158) (by decide) (by decide) ?_
        exact k
      exact OJ.here ⟨(-(p0.toInt64)), T5, _, a_of1 hS (sg_o hsg hq), X5, e5, N5, rfl⟩
  refine OEndsH.st st6 ?_
  subst hy6
  refine OEndsH.st (S' := T6.setTop (mkF m 167 #[vi p0, vi p1, vi p2, vi p3, vi p4, vi x0, vi x1, vi x2, vi (Int32.ofNat tn), vr ca, vr tp, vr r4, vj (p0.toInt64), .second, vi (Int32.ofNat sg), vj (Int64.ofNat A), .second, .unset, .unset, .unset, .unset, .unset, .unset] [(.long (Int64.ofNat A))])) (fun _ k => ?_) ?_
  · refine XS.lstore X6.here hx rfl (hb hby at_163) rfl (l' := #[vi p0, vi p1, vi p2, vi p3, vi p4, vi x0, vi x1, vi x2, vi (Int32.ofNat tn), vr ca, vr tp, vr r4, vj (p0.toInt64), .second, vi (Int32.ofNat sg), vj (Int64.ofNat A), .second, .unset, .unset, .unset, .unset, .unset, .unset]) rfl ?_
    refine XS.lload X6.here hx rfl (hb hby at_165) rfl ?_
    exact k
  obtain ⟨_, T7, h7, L7, X7, e7, hQ7, st7⟩ := callC X6 hx hZ4 hown4 (wq hw 191 rfl) (wq hw 192 rfl) (wq hw 193 rfl) (wq hw 194 rfl) (by decide) (kc := 0) (ks := 0) (Con.sb (W := 0) (rm_digits l hD A O1 hAb) hZ4 (wq hw 194 rfl) (wq hw 193 rfl) (by decide) (by decide)) e6 (g := (mkF m 167 #[vi p0, vi p1, vi p2, vi p3, vi p4, vi x0, vi x1, vi x2, vi (Int32.ofNat tn), vr ca, vr tp, vr r4, vj (p0.toInt64), .second, vi (Int32.ofNat sg), vj (Int64.ofNat A), .second, .unset, .unset, .unset, .unset, .unset, .unset] [(.long (Int64.ofNat A))])) rfl (by rw [hml]; rfl) (argsL := [(.long (Int64.ofNat A))]) (rest := []) (lenOf pd_30 rfl) rfl (by show 2 * 0 + _ ≤ _; exact Nat.le_of_eq rfl) (hb hby at_167) (by decide) (by decide)
  obtain ⟨d7, hD7, rfl, Nq7, Hq7⟩ := hQ7
  refine OEndsH.st st7 ?_
  replace N6 := Fr.app N6 Nq7
  replace e7 := e7.trans Hq7
  obtain rfl := dig_uniq hDig hD7
  refine OEndsH.st (S' := T7.setTop (mkF m 174 #[vi p0, vi p1, vi p2, vi p3, vi p4, vi x0, vi x1, vi x2, vi (Int32.ofNat tn), vr ca, vr tp, vr r4, vj (p0.toInt64), .second, vi (Int32.ofNat sg), vj (Int64.ofNat A), .second, vi (Int32.ofNat d), .unset, .unset, .unset, .unset, .unset] [(.int (Int32.ofNat sg))])) (fun _ k => ?_) ?_
  · refine XS.istore X7.here hx rfl (hb hby at_170) rfl (l' := #[vi p0, vi p1, vi p2, vi p3, vi p4, vi x0, vi x1, vi x2, vi (Int32.ofNat tn), vr ca, vr tp, vr r4, vj (p0.toInt64), .second, vi (Int32.ofNat sg), vj (Int64.ofNat A), .second, vi (Int32.ofNat d), .unset, .unset, .unset, .unset, .unset]) rfl ?_
    refine XS.iload X7.here hx rfl (hb hby at_172) rfl ?_
    exact k
  obtain ⟨_, ⟨y8, T8, lc8, hy8, X8, e8, N8, rfl⟩, st8⟩ : OJ p e below (fun S' => ∃ (y8 : Int32) (T' : State) (lc : List Loc), (y8 = Int32.ofNat sg) ∧ Stand p l e room_1 (s.setVm vm4) m #[(.int p0), (.int p1), (.int p2), (.int p3), (.int p4)] below meth c T' lc 16 229 ∧ T'.heap = h4 ∧ Fr Z.heap.size lc ∧ S' = T'.setTop (mkF m 182 #[vi p0, vi p1, vi p2, vi p3, vi p4, vi x0, vi x1, vi x2, vi (Int32.ofNat tn), vr ca, vr tp, vr r4, vj (p0.toInt64), .second, vi (Int32.ofNat sg), vj (Int64.ofNat A), .second, vi (Int32.ofNat d), .unset, .unset, .unset, .unset, .unset] [(.int y8)])) (T7.setTop (mkF m 174 #[vi p0, vi p1, vi p2, vi p3, vi p4, vi x0, vi x1, vi x2, vi (Int32.ofNat tn), vr ca, vr tp, vr r4, vj (p0.toInt64), .second, vi (Int32.ofNat sg), vj (Int64.ofNat A), .second, vi (Int32.ofNat d), .unset, .unset, .unset, .unset, .unset] [(.int (Int32.ofNat sg))])) := by
    rcases Classical.em ((Int32.ofNat sg) = (0 : Int32)) with hq | hq
    · refine OJ.st (S' := T7.setTop (mkF m 182 #[vi p0, vi p1, vi p2, vi p3, vi p4, vi x0, vi x1, vi x2, vi (Int32.ofNat tn), vr ca, vr tp, vr r4, vj (p0.toInt64), .second, vi (Int32.ofNat sg), vj (Int64.ofNat A), .second, vi (Int32.ofNat d), .unset, .unset, .unset, .unset, .unset] [(.int 0)])) (fun _ k => ?_) ?_
      · refine XS.ifYes X7.here hx rfl (pc0 := 174) (pc' := 181) rfl (hb hby at_174) rfl ((if0 _ _).trans (teq hq).1) (by decide) (by decide) ?_
        refine XS.iconst X7.here hx rfl (hb hby at_181) ?_
        exact k
      exact OJ.here ⟨(0 : Int32), T7, _, by rw [sg_z hsg hq]; rfl, X7, e7, N6, rfl⟩
    · refine OJ.st (S' := T7.setTop (mkF m 182 #[vi p0, vi p1, vi p2, vi p3, vi p4, vi x0, vi x1, vi x2, vi (Int32.ofNat tn), vr ca, vr tp, vr r4, vj (p0.toInt64), .second, vi (Int32.ofNat sg), vj (Int64.ofNat A), .second, vi (Int32.ofNat d), .unset, .unset, .unset, .unset, .unset] [(.int 1)])) (fun _ k => ?_) ?_
      · refine XS.ifNo X7.here hx rfl (hb hby at_174) rfl ((if0 _ _).trans (feq hq).1) ?_
        refine XS.iconst X7.here hx rfl (hb hby at_177) ?_
        refine XS.goto X7.here hx rfl (pc0 := 178) (pc' := 182) rfl (hb hby at_178) (by decide) (by decide) ?_
        exact k
      exact OJ.here ⟨(1 : Int32), T7, _, by rw [sg_o hsg hq]; rfl, X7, e7, N6, rfl⟩
  refine OEndsH.st st8 ?_
  subst hy8
  refine OEndsH.st (S' := T8.setTop (mkF m 192 #[vi p0, vi p1, vi p2, vi p3, vi p4, vi x0, vi x1, vi x2, vi (Int32.ofNat tn), vr ca, vr tp, vr r4, vj (p0.toInt64), .second, vi (Int32.ofNat sg), vj (Int64.ofNat A), .second, vi (Int32.ofNat d), vi (Int32.ofNat sg), .unset, .unset, .unset, .unset] [(.int (((6 : Int32) + (Int32.ofNat sg)) + (Int32.ofNat d)))])) (fun _ k => ?_) ?_
  · refine XS.istore X8.here hx rfl (hb hby at_182) rfl (l' := #[vi p0, vi p1, vi p2, vi p3, vi p4, vi x0, vi x1, vi x2, vi (Int32.ofNat tn), vr ca, vr tp, vr r4, vj (p0.toInt64), .second, vi (Int32.ofNat sg), vj (Int64.ofNat A), .second, vi (Int32.ofNat d), vi (Int32.ofNat sg), .unset, .unset, .unset, .unset]) rfl ?_
    refine XS.bipush X8.here hx rfl (hb hby at_184) ?_
    refine XS.iload X8.here hx rfl (hb hby at_186) rfl ?_
    refine XS.iadd X8.here hx rfl (hb hby at_188) rfl ?_
    show Steps p.tables e below (T8.setTop (mkF m 189 #[vi p0, vi p1, vi p2, vi p3, vi p4, vi x0, vi x1, vi x2, vi (Int32.ofNat tn), vr ca, vr tp, vr r4, vj (p0.toInt64), .second, vi (Int32.ofNat sg), vj (Int64.ofNat A), .second, vi (Int32.ofNat d), vi (Int32.ofNat sg), .unset, .unset, .unset, .unset] [(.int ((6 : Int32) + (Int32.ofNat sg)))])) _
    refine XS.iload X8.here hx rfl (hb hby at_189) rfl ?_
    refine XS.iadd X8.here hx rfl (hb hby at_191) rfl ?_
    exact k
  rw [m_lem sg d]
  refine OEndsH.st (S' := T8.setTop (mkF m 196 #[vi p0, vi p1, vi p2, vi p3, vi p4, vi x0, vi x1, vi x2, vi (Int32.ofNat tn), vr ca, vr tp, vr r4, vj (p0.toInt64), .second, vi (Int32.ofNat sg), vj (Int64.ofNat A), .second, vi (Int32.ofNat d), vi (Int32.ofNat sg), vi (Int32.ofNat (6 + sg + d)), .unset, .unset, .unset] [(.ref r4)])) (fun _ k => ?_) ?_
  · refine XS.istore X8.here hx rfl (hb hby at_192) rfl (l' := #[vi p0, vi p1, vi p2, vi p3, vi p4, vi x0, vi x1, vi x2, vi (Int32.ofNat tn), vr ca, vr tp, vr r4, vj (p0.toInt64), .second, vi (Int32.ofNat sg), vj (Int64.ofNat A), .second, vi (Int32.ofNat d), vi (Int32.ofNat sg), vi (Int32.ofNat (6 + sg + d)), .unset, .unset, .unset]) rfl ?_
    refine XS.aload X8.here hx rfl (hb hby at_194) rfl rfl ?_
    exact k
  obtain ⟨_, T9, h9, L9, X9, e9, hQ9, st9⟩ := virtC X8 hx hZ4 (y := (⟨"java/lang/String", "length", "()I"⟩ : MethodName)) (z := (⟨"java/lang/String", "length", "()I"⟩ : MethodName)) hown4 (wq hw 196 rfl) (wq hw 73 rfl) (nf_sel (args := #[]) (mvT hZ4 (wq hw 75 rfl)) rfl) (wq hw 75 rfl) (wq hw 74 rfl) (by decide) (kc := 0) (ks := 0) (Con.sb (W := 0) (rm_strLen l hD r4 tq4 kq4 (Int32.ofNat (qs sg A d ct).length) (bys (qs sg A d ct)) O1 Eq4 Fc4 Fv4 V4) hZ4 (wq hw 76 rfl) (wq hw 3 rfl) (by decide) (by decide)) e8 Eq4 (g := (mkF m 196 #[vi p0, vi p1, vi p2, vi p3, vi p4, vi x0, vi x1, vi x2, vi (Int32.ofNat tn), vr ca, vr tp, vr r4, vj (p0.toInt64), .second, vi (Int32.ofNat sg), vj (Int64.ofNat A), .second, vi (Int32.ofNat d), vi (Int32.ofNat sg), vi (Int32.ofNat (6 + sg + d)), .unset, .unset, .unset] [(.ref r4)])) rfl (by rw [hml]; rfl) (argsL := []) (rest := []) (lenOf pd_4 rfl) rfl (by show 2 * 0 + _ ≤ _; exact Nat.le_of_eq rfl) (hb hby at_196) (by decide) (by decide)
  obtain ⟨rfl, Nq9, Hq9⟩ := hQ9
  refine OEndsH.st st9 ?_
  replace N8 := Fr.app N8 Nq9
  replace e9 := e9.trans Hq9
  refine OEndsH.st (S' := T9.setTop (mkF m 215 #[vi p0, vi p1, vi p2, vi p3, vi p4, vi x0, vi x1, vi x2, vi (Int32.ofNat tn), vr ca, vr tp, vr r4, vj (p0.toInt64), .second, vi (Int32.ofNat sg), vj (Int64.ofNat A), .second, vi (Int32.ofNat d), vi (Int32.ofNat sg), vi (Int32.ofNat (6 + sg + d)), .unset, .unset, .unset] [(.int 0), (.ref r4)])) (fun _ k => ?_) ?_
  · refine XS.iload X9.here hx rfl (hb hby at_199) rfl ?_
    refine XS.bipush X9.here hx rfl (hb hby at_201) ?_
    refine XS.iadd X9.here hx rfl (hb hby at_203) rfl ?_
    refine XS.iload X9.here hx rfl (hb hby at_204) rfl ?_
    show Steps p.tables e below (T9.setTop (mkF m 206 #[vi p0, vi p1, vi p2, vi p3, vi p4, vi x0, vi x1, vi x2, vi (Int32.ofNat tn), vr ca, vr tp, vr r4, vj (p0.toInt64), .second, vi (Int32.ofNat sg), vj (Int64.ofNat A), .second, vi (Int32.ofNat d), vi (Int32.ofNat sg), vi (Int32.ofNat (6 + sg + d)), .unset, .unset, .unset] [(.int (Int32.ofNat tn)), (.int ((Int32.ofNat (6 + sg + d)) + (10 : Int32))), (.int (Int32.ofNat (qs sg A d ct).length))])) _
    refine XS.iadd X9.here hx rfl (hb hby at_206) rfl ?_
    refine XS.icmpYes X9.here hx rfl (pc0 := 207) (pc' := 212) rfl (hb hby at_207) rfl (teq (len_lem hcs)).1 (by decide) (by decide) ?_
    refine XS.aload X9.here hx rfl (hb hby at_212) rfl rfl ?_
    refine XS.iconst X9.here hx rfl (hb hby at_214) ?_
    exact k
  obtain ⟨_, T10, h10, L10, X10, e10, hQ10, st10⟩ := virtC X9 hx hZ4 (y := (⟨"java/lang/String", "charAt", "(I)C"⟩ : MethodName)) (z := (⟨"java/lang/String", "charAt", "(I)C"⟩ : MethodName)) hown4 (wq hw 197 rfl) (wq hw 198 rfl) (nf_sel (args := #[]) (mvT hZ4 (wq hw 75 rfl)) rfl) (wq hw 200 rfl) (wq hw 199 rfl) (by decide) (kc := 0) (ks := 0) (Con.sb (W := 0) (rm_chAt l hD r4 0 tq4 kq4 (qs sg A d ct) (113 : Int32) O1 Eq4 Fc4 Fv4 V4 hql (qs_lo (j := 0) (by decide) rfl) ⟨by decide, by decide⟩) hZ4 (wq hw 201 rfl) (wq hw 3 rfl) (by decide) (by decide)) e9 Eq4 (g := (mkF m 215 #[vi p0, vi p1, vi p2, vi p3, vi p4, vi x0, vi x1, vi x2, vi (Int32.ofNat tn), vr ca, vr tp, vr r4, vj (p0.toInt64), .second, vi (Int32.ofNat sg), vj (Int64.ofNat A), .second, vi (Int32.ofNat d), vi (Int32.ofNat sg), vi (Int32.ofNat (6 + sg + d)), .unset, .unset, .unset] [(.int 0), (.ref r4)])) rfl (by rw [hml]; rfl) (argsL := [(.int 0)]) (rest := []) (lenOf pd_26 rfl) rfl (by show 2 * 0 + _ ≤ _; exact Nat.le_of_eq rfl) (hb hby at_215) (by decide) (by decide)
  obtain ⟨rfl, Nq10, Hq10⟩ := hQ10
  refine OEndsH.st st10 ?_
  replace N8 := Fr.app N8 Nq10
  replace e10 := e10.trans Hq10
  refine OEndsH.st (S' := T10.setTop (mkF m 226 #[vi p0, vi p1, vi p2, vi p3, vi p4, vi x0, vi x1, vi x2, vi (Int32.ofNat tn), vr ca, vr tp, vr r4, vj (p0.toInt64), .second, vi (Int32.ofNat sg), vj (Int64.ofNat A), .second, vi (Int32.ofNat d), vi (Int32.ofNat sg), vi (Int32.ofNat (6 + sg + d)), .unset, .unset, .unset] [(.int 1), (.ref r4)])) (fun _ k => ?_) ?_
  · refine XS.bipush X10.here hx rfl (hb hby at_218) ?_
    refine XS.icmpNo X10.here hx rfl (hb hby at_220) rfl (teq (by decide)).2 ?_
    refine XS.aload X10.here hx rfl (hb hby at_223) rfl rfl ?_
    refine XS.iconst X10.here hx rfl (hb hby at_225) ?_
    exact k
  obtain ⟨_, T11, h11, L11, X11, e11, hQ11, st11⟩ := virtC X10 hx hZ4 (y := (⟨"java/lang/String", "charAt", "(I)C"⟩ : MethodName)) (z := (⟨"java/lang/String", "charAt", "(I)C"⟩ : MethodName)) hown4 (wq hw 197 rfl) (wq hw 198 rfl) (nf_sel (args := #[]) (mvT hZ4 (wq hw 75 rfl)) rfl) (wq hw 200 rfl) (wq hw 199 rfl) (by decide) (kc := 0) (ks := 0) (Con.sb (W := 0) (rm_chAt l hD r4 1 tq4 kq4 (qs sg A d ct) (117 : Int32) O1 Eq4 Fc4 Fv4 V4 hql (qs_lo (j := 1) (by decide) rfl) ⟨by decide, by decide⟩) hZ4 (wq hw 201 rfl) (wq hw 3 rfl) (by decide) (by decide)) e10 Eq4 (g := (mkF m 226 #[vi p0, vi p1, vi p2, vi p3, vi p4, vi x0, vi x1, vi x2, vi (Int32.ofNat tn), vr ca, vr tp, vr r4, vj (p0.toInt64), .second, vi (Int32.ofNat sg), vj (Int64.ofNat A), .second, vi (Int32.ofNat d), vi (Int32.ofNat sg), vi (Int32.ofNat (6 + sg + d)), .unset, .unset, .unset] [(.int 1), (.ref r4)])) rfl (by rw [hml]; rfl) (argsL := [(.int 1)]) (rest := []) (lenOf pd_26 rfl) rfl (by show 2 * 0 + _ ≤ _; exact Nat.le_of_eq rfl) (hb hby at_226) (by decide) (by decide)
  obtain ⟨rfl, Nq11, Hq11⟩ := hQ11
  refine OEndsH.st st11 ?_
  replace N8 := Fr.app N8 Nq11
  replace e11 := e11.trans Hq11
  refine OEndsH.st (S' := T11.setTop (mkF m 237 #[vi p0, vi p1, vi p2, vi p3, vi p4, vi x0, vi x1, vi x2, vi (Int32.ofNat tn), vr ca, vr tp, vr r4, vj (p0.toInt64), .second, vi (Int32.ofNat sg), vj (Int64.ofNat A), .second, vi (Int32.ofNat d), vi (Int32.ofNat sg), vi (Int32.ofNat (6 + sg + d)), .unset, .unset, .unset] [(.int 2), (.ref r4)])) (fun _ k => ?_) ?_
  · refine XS.bipush X11.here hx rfl (hb hby at_229) ?_
    refine XS.icmpNo X11.here hx rfl (hb hby at_231) rfl (teq (by decide)).2 ?_
    refine XS.aload X11.here hx rfl (hb hby at_234) rfl rfl ?_
    refine XS.iconst X11.here hx rfl (hb hby at_236) ?_
    exact k
  obtain ⟨_, T12, h12, L12, X12, e12, hQ12, st12⟩ := virtC X11 hx hZ4 (y := (⟨"java/lang/String", "charAt", "(I)C"⟩ : MethodName)) (z := (⟨"java/lang/String", "charAt", "(I)C"⟩ : MethodName)) hown4 (wq hw 197 rfl) (wq hw 198 rfl) (nf_sel (args := #[]) (mvT hZ4 (wq hw 75 rfl)) rfl) (wq hw 200 rfl) (wq hw 199 rfl) (by decide) (kc := 0) (ks := 0) (Con.sb (W := 0) (rm_chAt l hD r4 2 tq4 kq4 (qs sg A d ct) (101 : Int32) O1 Eq4 Fc4 Fv4 V4 hql (qs_lo (j := 2) (by decide) rfl) ⟨by decide, by decide⟩) hZ4 (wq hw 201 rfl) (wq hw 3 rfl) (by decide) (by decide)) e11 Eq4 (g := (mkF m 237 #[vi p0, vi p1, vi p2, vi p3, vi p4, vi x0, vi x1, vi x2, vi (Int32.ofNat tn), vr ca, vr tp, vr r4, vj (p0.toInt64), .second, vi (Int32.ofNat sg), vj (Int64.ofNat A), .second, vi (Int32.ofNat d), vi (Int32.ofNat sg), vi (Int32.ofNat (6 + sg + d)), .unset, .unset, .unset] [(.int 2), (.ref r4)])) rfl (by rw [hml]; rfl) (argsL := [(.int 2)]) (rest := []) (lenOf pd_26 rfl) rfl (by show 2 * 0 + _ ≤ _; exact Nat.le_of_eq rfl) (hb hby at_237) (by decide) (by decide)
  obtain ⟨rfl, Nq12, Hq12⟩ := hQ12
  refine OEndsH.st st12 ?_
  replace N8 := Fr.app N8 Nq12
  replace e12 := e12.trans Hq12
  refine OEndsH.st (S' := T12.setTop (mkF m 248 #[vi p0, vi p1, vi p2, vi p3, vi p4, vi x0, vi x1, vi x2, vi (Int32.ofNat tn), vr ca, vr tp, vr r4, vj (p0.toInt64), .second, vi (Int32.ofNat sg), vj (Int64.ofNat A), .second, vi (Int32.ofNat d), vi (Int32.ofNat sg), vi (Int32.ofNat (6 + sg + d)), .unset, .unset, .unset] [(.int 3), (.ref r4)])) (fun _ k => ?_) ?_
  · refine XS.bipush X12.here hx rfl (hb hby at_240) ?_
    refine XS.icmpNo X12.here hx rfl (hb hby at_242) rfl (teq (by decide)).2 ?_
    refine XS.aload X12.here hx rfl (hb hby at_245) rfl rfl ?_
    refine XS.iconst X12.here hx rfl (hb hby at_247) ?_
    exact k
  obtain ⟨_, T13, h13, L13, X13, e13, hQ13, st13⟩ := virtC X12 hx hZ4 (y := (⟨"java/lang/String", "charAt", "(I)C"⟩ : MethodName)) (z := (⟨"java/lang/String", "charAt", "(I)C"⟩ : MethodName)) hown4 (wq hw 197 rfl) (wq hw 198 rfl) (nf_sel (args := #[]) (mvT hZ4 (wq hw 75 rfl)) rfl) (wq hw 200 rfl) (wq hw 199 rfl) (by decide) (kc := 0) (ks := 0) (Con.sb (W := 0) (rm_chAt l hD r4 3 tq4 kq4 (qs sg A d ct) (117 : Int32) O1 Eq4 Fc4 Fv4 V4 hql (qs_lo (j := 3) (by decide) rfl) ⟨by decide, by decide⟩) hZ4 (wq hw 201 rfl) (wq hw 3 rfl) (by decide) (by decide)) e12 Eq4 (g := (mkF m 248 #[vi p0, vi p1, vi p2, vi p3, vi p4, vi x0, vi x1, vi x2, vi (Int32.ofNat tn), vr ca, vr tp, vr r4, vj (p0.toInt64), .second, vi (Int32.ofNat sg), vj (Int64.ofNat A), .second, vi (Int32.ofNat d), vi (Int32.ofNat sg), vi (Int32.ofNat (6 + sg + d)), .unset, .unset, .unset] [(.int 3), (.ref r4)])) rfl (by rw [hml]; rfl) (argsL := [(.int 3)]) (rest := []) (lenOf pd_26 rfl) rfl (by show 2 * 0 + _ ≤ _; exact Nat.le_of_eq rfl) (hb hby at_248) (by decide) (by decide)
  obtain ⟨rfl, Nq13, Hq13⟩ := hQ13
  refine OEndsH.st st13 ?_
  replace N8 := Fr.app N8 Nq13
  replace e13 := e13.trans Hq13
  refine OEndsH.st (S' := T13.setTop (mkF m 259 #[vi p0, vi p1, vi p2, vi p3, vi p4, vi x0, vi x1, vi x2, vi (Int32.ofNat tn), vr ca, vr tp, vr r4, vj (p0.toInt64), .second, vi (Int32.ofNat sg), vj (Int64.ofNat A), .second, vi (Int32.ofNat d), vi (Int32.ofNat sg), vi (Int32.ofNat (6 + sg + d)), .unset, .unset, .unset] [(.int 4), (.ref r4)])) (fun _ k => ?_) ?_
  · refine XS.bipush X13.here hx rfl (hb hby at_251) ?_
    refine XS.icmpNo X13.here hx rfl (hb hby at_253) rfl (teq (by decide)).2 ?_
    refine XS.aload X13.here hx rfl (hb hby at_256) rfl rfl ?_
    refine XS.iconst X13.here hx rfl (hb hby at_258) ?_
    exact k
  obtain ⟨_, T14, h14, L14, X14, e14, hQ14, st14⟩ := virtC X13 hx hZ4 (y := (⟨"java/lang/String", "charAt", "(I)C"⟩ : MethodName)) (z := (⟨"java/lang/String", "charAt", "(I)C"⟩ : MethodName)) hown4 (wq hw 197 rfl) (wq hw 198 rfl) (nf_sel (args := #[]) (mvT hZ4 (wq hw 75 rfl)) rfl) (wq hw 200 rfl) (wq hw 199 rfl) (by decide) (kc := 0) (ks := 0) (Con.sb (W := 0) (rm_chAt l hD r4 4 tq4 kq4 (qs sg A d ct) (101 : Int32) O1 Eq4 Fc4 Fv4 V4 hql (qs_lo (j := 4) (by decide) rfl) ⟨by decide, by decide⟩) hZ4 (wq hw 201 rfl) (wq hw 3 rfl) (by decide) (by decide)) e13 Eq4 (g := (mkF m 259 #[vi p0, vi p1, vi p2, vi p3, vi p4, vi x0, vi x1, vi x2, vi (Int32.ofNat tn), vr ca, vr tp, vr r4, vj (p0.toInt64), .second, vi (Int32.ofNat sg), vj (Int64.ofNat A), .second, vi (Int32.ofNat d), vi (Int32.ofNat sg), vi (Int32.ofNat (6 + sg + d)), .unset, .unset, .unset] [(.int 4), (.ref r4)])) rfl (by rw [hml]; rfl) (argsL := [(.int 4)]) (rest := []) (lenOf pd_26 rfl) rfl (by show 2 * 0 + _ ≤ _; exact Nat.le_of_eq rfl) (hb hby at_259) (by decide) (by decide)
  obtain ⟨rfl, Nq14, Hq14⟩ := hQ14
  refine OEndsH.st st14 ?_
  replace N8 := Fr.app N8 Nq14
  replace e14 := e14.trans Hq14
  refine OEndsH.st (S' := T14.setTop (mkF m 270 #[vi p0, vi p1, vi p2, vi p3, vi p4, vi x0, vi x1, vi x2, vi (Int32.ofNat tn), vr ca, vr tp, vr r4, vj (p0.toInt64), .second, vi (Int32.ofNat sg), vj (Int64.ofNat A), .second, vi (Int32.ofNat d), vi (Int32.ofNat sg), vi (Int32.ofNat (6 + sg + d)), .unset, .unset, .unset] [(.int 5), (.ref r4)])) (fun _ k => ?_) ?_
  · refine XS.bipush X14.here hx rfl (hb hby at_262) ?_
    refine XS.icmpNo X14.here hx rfl (hb hby at_264) rfl (teq (by decide)).2 ?_
    refine XS.aload X14.here hx rfl (hb hby at_267) rfl rfl ?_
    refine XS.iconst X14.here hx rfl (hb hby at_269) ?_
    exact k
  obtain ⟨_, T15, h15, L15, X15, e15, hQ15, st15⟩ := virtC X14 hx hZ4 (y := (⟨"java/lang/String", "charAt", "(I)C"⟩ : MethodName)) (z := (⟨"java/lang/String", "charAt", "(I)C"⟩ : MethodName)) hown4 (wq hw 197 rfl) (wq hw 198 rfl) (nf_sel (args := #[]) (mvT hZ4 (wq hw 75 rfl)) rfl) (wq hw 200 rfl) (wq hw 199 rfl) (by decide) (kc := 0) (ks := 0) (Con.sb (W := 0) (rm_chAt l hD r4 5 tq4 kq4 (qs sg A d ct) (32 : Int32) O1 Eq4 Fc4 Fv4 V4 hql (qs_lo (j := 5) (by decide) rfl) ⟨by decide, by decide⟩) hZ4 (wq hw 201 rfl) (wq hw 3 rfl) (by decide) (by decide)) e14 Eq4 (g := (mkF m 270 #[vi p0, vi p1, vi p2, vi p3, vi p4, vi x0, vi x1, vi x2, vi (Int32.ofNat tn), vr ca, vr tp, vr r4, vj (p0.toInt64), .second, vi (Int32.ofNat sg), vj (Int64.ofNat A), .second, vi (Int32.ofNat d), vi (Int32.ofNat sg), vi (Int32.ofNat (6 + sg + d)), .unset, .unset, .unset] [(.int 5), (.ref r4)])) rfl (by rw [hml]; rfl) (argsL := [(.int 5)]) (rest := []) (lenOf pd_26 rfl) rfl (by show 2 * 0 + _ ≤ _; exact Nat.le_of_eq rfl) (hb hby at_270) (by decide) (by decide)
  obtain ⟨rfl, Nq15, Hq15⟩ := hQ15
  refine OEndsH.st st15 ?_
  replace N8 := Fr.app N8 Nq15
  replace e15 := e15.trans Hq15
  refine OEndsH.st (S' := T15.setTop (mkF m 282 #[vi p0, vi p1, vi p2, vi p3, vi p4, vi x0, vi x1, vi x2, vi (Int32.ofNat tn), vr ca, vr tp, vr r4, vj (p0.toInt64), .second, vi (Int32.ofNat sg), vj (Int64.ofNat A), .second, vi (Int32.ofNat d), vi (Int32.ofNat sg), vi (Int32.ofNat (6 + sg + d)), .unset, .unset, .unset] [(.int (Int32.ofNat sg))])) (fun _ k => ?_) ?_
  · refine XS.bipush X15.here hx rfl (hb hby at_273) ?_
    refine XS.icmpYes X15.here hx rfl (pc0 := 275) (pc' := 280) rfl (hb hby at_275) rfl (teq (by decide)).1 (by decide) (by decide) ?_
    refine XS.iload X15.here hx rfl (hb hby at_280) rfl ?_
    exact k
  obtain ⟨_, ⟨y16, T16, lc16, hy16, X16, e16, N16, rfl⟩, st16⟩ : OJ p e below (fun S' => ∃ (y16 : Int32) (T' : State) (lc : List Loc), (y16 = 0) ∧ Stand p l e room_1 (s.setVm vm4) m #[(.int p0), (.int p1), (.int p2), (.int p3), (.int p4)] below meth c T' lc 16 229 ∧ T'.heap = h4 ∧ Fr Z.heap.size lc ∧ S' = T'.setTop (mkF m 299 #[vi p0, vi p1, vi p2, vi p3, vi p4, vi x0, vi x1, vi x2, vi (Int32.ofNat tn), vr ca, vr tp, vr r4, vj (p0.toInt64), .second, vi (Int32.ofNat sg), vj (Int64.ofNat A), .second, vi (Int32.ofNat d), vi (Int32.ofNat sg), vi (Int32.ofNat (6 + sg + d)), .unset, .unset, .unset] [])) (T15.setTop (mkF m 282 #[vi p0, vi p1, vi p2, vi p3, vi p4, vi x0, vi x1, vi x2, vi (Int32.ofNat tn), vr ca, vr tp, vr r4, vj (p0.toInt64), .second, vi (Int32.ofNat sg), vj (Int64.ofNat A), .second, vi (Int32.ofNat d), vi (Int32.ofNat sg), vi (Int32.ofNat (6 + sg + d)), .unset, .unset, .unset] [(.int (Int32.ofNat sg))])) := by
    rcases Classical.em ((Int32.ofNat sg) = (0 : Int32)) with hq | hq
    · refine OJ.st (S' := T15.setTop (mkF m 299 #[vi p0, vi p1, vi p2, vi p3, vi p4, vi x0, vi x1, vi x2, vi (Int32.ofNat tn), vr ca, vr tp, vr r4, vj (p0.toInt64), .second, vi (Int32.ofNat sg), vj (Int64.ofNat A), .second, vi (Int32.ofNat d), vi (Int32.ofNat sg), vi (Int32.ofNat (6 + sg + d)), .unset, .unset, .unset] [])) (fun _ k => ?_) ?_
      · refine XS.ifYes X15.here hx rfl (pc0 := 282) (pc' := 299) rfl (hb hby at_282) rfl ((if0 _ _).trans (teq hq).1) (by decide) (by decide) ?_
        exact k
      exact OJ.here ⟨(0 : Int32), T15, _, rfl, X15, e15, N8, rfl⟩
    · have h1 : sg = 1 := sg_o hsg hq
      refine OJ.st (S' := T15.setTop (mkF m 289 #[vi p0, vi p1, vi p2, vi p3, vi p4, vi x0, vi x1, vi x2, vi (Int32.ofNat tn), vr ca, vr tp, vr r4, vj (p0.toInt64), .second, vi (Int32.ofNat sg), vj (Int64.ofNat A), .second, vi (Int32.ofNat d), vi (Int32.ofNat sg), vi (Int32.ofNat (6 + sg + d)), .unset, .unset, .unset] [(.int 6), (.ref r4)])) (fun _ k => ?_) ?_
      · refine XS.ifNo X15.here hx rfl (hb hby at_282) rfl ((if0 _ _).trans (feq hq).1) ?_
        refine XS.aload X15.here hx rfl (hb hby at_285) rfl rfl ?_
        refine XS.bipush X15.here hx rfl (hb hby at_287) ?_
        exact k
      obtain ⟨_, T17, h17, L17, X17, e17, hQ17, st17⟩ := virtC X15 hx hZ4 (y := (⟨"java/lang/String", "charAt", "(I)C"⟩ : MethodName)) (z := (⟨"java/lang/String", "charAt", "(I)C"⟩ : MethodName)) hown4 (wq hw 197 rfl) (wq hw 198 rfl) (nf_sel (args := #[]) (mvT hZ4 (wq hw 75 rfl)) rfl) (wq hw 200 rfl) (wq hw 199 rfl) (by decide) (kc := 0) (ks := 0) (Con.sb (W := 0) (rm_chAt l hD r4 6 tq4 kq4 (qs sg A d ct) (45 : Int32) O1 Eq4 Fc4 Fv4 V4 hql (by rw [h1]; exact qs_sg) ⟨by decide, by decide⟩) hZ4 (wq hw 201 rfl) (wq hw 3 rfl) (by decide) (by decide)) e15 Eq4 (g := (mkF m 289 #[vi p0, vi p1, vi p2, vi p3, vi p4, vi x0, vi x1, vi x2, vi (Int32.ofNat tn), vr ca, vr tp, vr r4, vj (p0.toInt64), .second, vi (Int32.ofNat sg), vj (Int64.ofNat A), .second, vi (Int32.ofNat d), vi (Int32.ofNat sg), vi (Int32.ofNat (6 + sg + d)), .unset, .unset, .unset] [(.int 6), (.ref r4)])) rfl (by rw [hml]; rfl) (argsL := [(.int 6)]) (rest := []) (lenOf pd_26 rfl) rfl (by show 2 * 0 + _ ≤ _; exact Nat.le_of_eq rfl) (hb hby at_289) (by decide) (by decide)
      obtain ⟨rfl, Nq17, Hq17⟩ := hQ17
      refine OJ.st st17 ?_
      replace N8 := Fr.app N8 Nq17
      replace e17 := e17.trans Hq17
      refine OJ.st (S' := T17.setTop (mkF m 299 #[vi p0, vi p1, vi p2, vi p3, vi p4, vi x0, vi x1, vi x2, vi (Int32.ofNat tn), vr ca, vr tp, vr r4, vj (p0.toInt64), .second, vi (Int32.ofNat sg), vj (Int64.ofNat A), .second, vi (Int32.ofNat d), vi (Int32.ofNat sg), vi (Int32.ofNat (6 + sg + d)), .unset, .unset, .unset] [])) (fun _ k => ?_) ?_
      · refine XS.bipush X17.here hx rfl (hb hby at_292) ?_
        refine XS.icmpYes X17.here hx rfl (pc0 := 294) (pc' := 299) rfl (hb hby at_294) rfl (teq (by decide)).1 (by decide) (by decide) ?_
        exact k
      exact OJ.here ⟨(0 : Int32), T17, _, rfl, X17, e17, N8, rfl⟩
  refine OEndsH.st st16 ?_
  refine OEndsH.st (S' := T16.setTop (mkF m 304 #[vi p0, vi p1, vi p2, vi p3, vi p4, vi x0, vi x1, vi x2, vi (Int32.ofNat tn), vr ca, vr tp, vr r4, vj (p0.toInt64), .second, vi (Int32.ofNat sg), vj (Int64.ofNat A), .second, vi (Int32.ofNat d), vi (Int32.ofNat sg), vi (Int32.ofNat (6 + sg + d)), .unset, .unset, .unset] [(.int ((6 : Int32) + (Int32.ofNat sg)))])) (fun _ k => ?_) ?_
  · refine XS.bipush X16.here hx rfl (hb hby at_299) ?_
    refine XS.iload X16.here hx rfl (hb hby at_301) rfl ?_
    refine XS.iadd X16.here hx rfl (hb hby at_303) rfl ?_
    exact k
  rw [show (6 : Int32) + Int32.ofNat sg = Int32.ofNat (6 + sg) from ofn_add 6 sg]
  refine OEndsH.st (S' := T16.setTop (mkF m 315 #[vi p0, vi p1, vi p2, vi p3, vi p4, vi x0, vi x1, vi x2, vi (Int32.ofNat tn), vr ca, vr tp, vr r4, vj (p0.toInt64), .second, vi (Int32.ofNat sg), vj (Int64.ofNat A), .second, vi (Int32.ofNat d), vi (Int32.ofNat sg), vi (Int32.ofNat (6 + sg + d)), vi (Int32.ofNat (6 + sg)), .unset, .unset] [(.int 0), (.long (Int64.ofNat A)), (.int (Int32.ofNat d)), (.int (Int32.ofNat (6 + sg))), (.ref r4)])) (fun _ k => ?_) ?_
  · refine XS.istore X16.here hx rfl (hb hby at_304) rfl (l' := #[vi p0, vi p1, vi p2, vi p3, vi p4, vi x0, vi x1, vi x2, vi (Int32.ofNat tn), vr ca, vr tp, vr r4, vj (p0.toInt64), .second, vi (Int32.ofNat sg), vj (Int64.ofNat A), .second, vi (Int32.ofNat d), vi (Int32.ofNat sg), vi (Int32.ofNat (6 + sg + d)), vi (Int32.ofNat (6 + sg)), .unset, .unset]) rfl ?_
    refine XS.aload X16.here hx rfl (hb hby at_306) rfl rfl ?_
    refine XS.iload X16.here hx rfl (hb hby at_308) rfl ?_
    refine XS.iload X16.here hx rfl (hb hby at_310) rfl ?_
    show Steps p.tables e below (T16.setTop (mkF m 312 #[vi p0, vi p1, vi p2, vi p3, vi p4, vi x0, vi x1, vi x2, vi (Int32.ofNat tn), vr ca, vr tp, vr r4, vj (p0.toInt64), .second, vi (Int32.ofNat sg), vj (Int64.ofNat A), .second, vi (Int32.ofNat d), vi (Int32.ofNat sg), vi (Int32.ofNat (6 + sg + d)), vi (Int32.ofNat (6 + sg)), .unset, .unset] [(.int (Int32.ofNat d)), (.int (Int32.ofNat (6 + sg))), (.ref r4)])) _
    refine XS.lload X16.here hx rfl (hb hby at_312) rfl ?_
    refine XS.iconst X16.here hx rfl (hb hby at_314) ?_
    exact k
  obtain ⟨_, T17, h17, L17, X17, e17, hQ17, st17⟩ := callC X16 hx hZ4 hown4 (wq hw 219 rfl) (wq hw 220 rfl) (wq hw 193 rfl) (wq hw 221 rfl) (by decide) (kc := 1) (ks := 10) (Con.sb (W := 0) (rm_digitOk l hD r4 0 tq4 kq4 sg A d ct O1 Eq4 Fc4 Fv4 V4 htp hDig hAb hsg hbd (by decide)) hZ4 (wq hw 221 rfl) (wq hw 193 rfl) (by decide) (by decide)) e16 (g := (mkF m 315 #[vi p0, vi p1, vi p2, vi p3, vi p4, vi x0, vi x1, vi x2, vi (Int32.ofNat tn), vr ca, vr tp, vr r4, vj (p0.toInt64), .second, vi (Int32.ofNat sg), vj (Int64.ofNat A), .second, vi (Int32.ofNat d), vi (Int32.ofNat sg), vi (Int32.ofNat (6 + sg + d)), vi (Int32.ofNat (6 + sg)), .unset, .unset] [(.int 0), (.long (Int64.ofNat A)), (.int (Int32.ofNat d)), (.int (Int32.ofNat (6 + sg))), (.ref r4)])) rfl (by rw [hml]; rfl) (argsL := [(.ref r4), (.int (Int32.ofNat (6 + sg))), (.int (Int32.ofNat d)), (.long (Int64.ofNat A)), (.int 0)]) (rest := []) (lenOf pd_31 rfl) rfl (by show 2 * 0 + _ ≤ _; exact Nat.le_of_eq rfl) (hb hby at_315) (by decide) (by decide)
  obtain ⟨rfl, Nq17, Kq17⟩ := hQ17
  refine OEndsH.st st17 ?_
  replace N16 := Fr.app N16 Nq17
  replace Fc4 := Fc4.keep Kq17 nin0
  replace Fv4 := Fv4.keep Kq17 nin0
  replace V4 := V4.keep Kq17 nin0
  replace Eq4 := Eq4.keep Kq17
  have A' : CHr Z EL s.vm s.heap vm4 h17 := A1.trans (CHr.keep Kq17 sf0 A1.1)
  replace A1 := A'
  replace hk4 := Nat.le_trans hk4 Kq17.1
  replace O1 : Ext Z.heap h17 := ext_keep O1 Kq17 all0
  refine OEndsH.st (S' := T17.setTop (mkF m 330 #[vi p0, vi p1, vi p2, vi p3, vi p4, vi x0, vi x1, vi x2, vi (Int32.ofNat tn), vr ca, vr tp, vr r4, vj (p0.toInt64), .second, vi (Int32.ofNat sg), vj (Int64.ofNat A), .second, vi (Int32.ofNat d), vi (Int32.ofNat sg), vi (Int32.ofNat (6 + sg + d)), vi (Int32.ofNat (6 + sg)), .unset, .unset] [(.int 1), (.long (Int64.ofNat A)), (.int (Int32.ofNat d)), (.int (Int32.ofNat (6 + sg))), (.ref r4)])) (fun _ k => ?_) ?_
  · refine XS.ifNo X17.here hx rfl (hb hby at_318) rfl ((if0 _ _).trans (feq (by decide)).1) ?_
    refine XS.aload X17.here hx rfl (hb hby at_321) rfl rfl ?_
    refine XS.iload X17.here hx rfl (hb hby at_323) rfl ?_
    refine XS.iload X17.here hx rfl (hb hby at_325) rfl ?_
    show Steps p.tables e below (T17.setTop (mkF m 327 #[vi p0, vi p1, vi p2, vi p3, vi p4, vi x0, vi x1, vi x2, vi (Int32.ofNat tn), vr ca, vr tp, vr r4, vj (p0.toInt64), .second, vi (Int32.ofNat sg), vj (Int64.ofNat A), .second, vi (Int32.ofNat d), vi (Int32.ofNat sg), vi (Int32.ofNat (6 + sg + d)), vi (Int32.ofNat (6 + sg)), .unset, .unset] [(.int (Int32.ofNat d)), (.int (Int32.ofNat (6 + sg))), (.ref r4)])) _
    refine XS.lload X17.here hx rfl (hb hby at_327) rfl ?_
    refine XS.iconst X17.here hx rfl (hb hby at_329) ?_
    exact k
  obtain ⟨_, T18, h18, L18, X18, e18, hQ18, st18⟩ := callC X17 hx hZ4 hown4 (wq hw 219 rfl) (wq hw 220 rfl) (wq hw 193 rfl) (wq hw 221 rfl) (by decide) (kc := 1) (ks := 10) (Con.sb (W := 0) (rm_digitOk l hD r4 1 tq4 kq4 sg A d ct O1 Eq4 Fc4 Fv4 V4 htp hDig hAb hsg hbd (by decide)) hZ4 (wq hw 221 rfl) (wq hw 193 rfl) (by decide) (by decide)) e17 (g := (mkF m 330 #[vi p0, vi p1, vi p2, vi p3, vi p4, vi x0, vi x1, vi x2, vi (Int32.ofNat tn), vr ca, vr tp, vr r4, vj (p0.toInt64), .second, vi (Int32.ofNat sg), vj (Int64.ofNat A), .second, vi (Int32.ofNat d), vi (Int32.ofNat sg), vi (Int32.ofNat (6 + sg + d)), vi (Int32.ofNat (6 + sg)), .unset, .unset] [(.int 1), (.long (Int64.ofNat A)), (.int (Int32.ofNat d)), (.int (Int32.ofNat (6 + sg))), (.ref r4)])) rfl (by rw [hml]; rfl) (argsL := [(.ref r4), (.int (Int32.ofNat (6 + sg))), (.int (Int32.ofNat d)), (.long (Int64.ofNat A)), (.int 1)]) (rest := []) (lenOf pd_31 rfl) rfl (by show 2 * 0 + _ ≤ _; exact Nat.le_of_eq rfl) (hb hby at_330) (by decide) (by decide)
  obtain ⟨rfl, Nq18, Kq18⟩ := hQ18
  refine OEndsH.st st18 ?_
  replace N16 := Fr.app N16 Nq18
  replace Fc4 := Fc4.keep Kq18 nin0
  replace Fv4 := Fv4.keep Kq18 nin0
  replace V4 := V4.keep Kq18 nin0
  replace Eq4 := Eq4.keep Kq18
  have A' : CHr Z EL s.vm s.heap vm4 h18 := A1.trans (CHr.keep Kq18 sf0 A1.1)
  replace A1 := A'
  replace hk4 := Nat.le_trans hk4 Kq18.1
  replace O1 : Ext Z.heap h18 := ext_keep O1 Kq18 all0
  refine OEndsH.st (S' := T18.setTop (mkF m 345 #[vi p0, vi p1, vi p2, vi p3, vi p4, vi x0, vi x1, vi x2, vi (Int32.ofNat tn), vr ca, vr tp, vr r4, vj (p0.toInt64), .second, vi (Int32.ofNat sg), vj (Int64.ofNat A), .second, vi (Int32.ofNat d), vi (Int32.ofNat sg), vi (Int32.ofNat (6 + sg + d)), vi (Int32.ofNat (6 + sg)), .unset, .unset] [(.int 2), (.long (Int64.ofNat A)), (.int (Int32.ofNat d)), (.int (Int32.ofNat (6 + sg))), (.ref r4)])) (fun _ k => ?_) ?_
  · refine XS.ifNo X18.here hx rfl (hb hby at_333) rfl ((if0 _ _).trans (feq (by decide)).1) ?_
    refine XS.aload X18.here hx rfl (hb hby at_336) rfl rfl ?_
    refine XS.iload X18.here hx rfl (hb hby at_338) rfl ?_
    refine XS.iload X18.here hx rfl (hb hby at_340) rfl ?_
    show Steps p.tables e below (T18.setTop (mkF m 342 #[vi p0, vi p1, vi p2, vi p3, vi p4, vi x0, vi x1, vi x2, vi (Int32.ofNat tn), vr ca, vr tp, vr r4, vj (p0.toInt64), .second, vi (Int32.ofNat sg), vj (Int64.ofNat A), .second, vi (Int32.ofNat d), vi (Int32.ofNat sg), vi (Int32.ofNat (6 + sg + d)), vi (Int32.ofNat (6 + sg)), .unset, .unset] [(.int (Int32.ofNat d)), (.int (Int32.ofNat (6 + sg))), (.ref r4)])) _
    refine XS.lload X18.here hx rfl (hb hby at_342) rfl ?_
    refine XS.iconst X18.here hx rfl (hb hby at_344) ?_
    exact k
  obtain ⟨_, T19, h19, L19, X19, e19, hQ19, st19⟩ := callC X18 hx hZ4 hown4 (wq hw 219 rfl) (wq hw 220 rfl) (wq hw 193 rfl) (wq hw 221 rfl) (by decide) (kc := 1) (ks := 10) (Con.sb (W := 0) (rm_digitOk l hD r4 2 tq4 kq4 sg A d ct O1 Eq4 Fc4 Fv4 V4 htp hDig hAb hsg hbd (by decide)) hZ4 (wq hw 221 rfl) (wq hw 193 rfl) (by decide) (by decide)) e18 (g := (mkF m 345 #[vi p0, vi p1, vi p2, vi p3, vi p4, vi x0, vi x1, vi x2, vi (Int32.ofNat tn), vr ca, vr tp, vr r4, vj (p0.toInt64), .second, vi (Int32.ofNat sg), vj (Int64.ofNat A), .second, vi (Int32.ofNat d), vi (Int32.ofNat sg), vi (Int32.ofNat (6 + sg + d)), vi (Int32.ofNat (6 + sg)), .unset, .unset] [(.int 2), (.long (Int64.ofNat A)), (.int (Int32.ofNat d)), (.int (Int32.ofNat (6 + sg))), (.ref r4)])) rfl (by rw [hml]; rfl) (argsL := [(.ref r4), (.int (Int32.ofNat (6 + sg))), (.int (Int32.ofNat d)), (.long (Int64.ofNat A)), (.int 2)]) (rest := []) (lenOf pd_31 rfl) rfl (by show 2 * 0 + _ ≤ _; exact Nat.le_of_eq rfl) (hb hby at_345) (by decide) (by decide)
  obtain ⟨rfl, Nq19, Kq19⟩ := hQ19
  refine OEndsH.st st19 ?_
  replace N16 := Fr.app N16 Nq19
  replace Fc4 := Fc4.keep Kq19 nin0
  replace Fv4 := Fv4.keep Kq19 nin0
  replace V4 := V4.keep Kq19 nin0
  replace Eq4 := Eq4.keep Kq19
  have A' : CHr Z EL s.vm s.heap vm4 h19 := A1.trans (CHr.keep Kq19 sf0 A1.1)
  replace A1 := A'
  replace hk4 := Nat.le_trans hk4 Kq19.1
  replace O1 : Ext Z.heap h19 := ext_keep O1 Kq19 all0
  refine OEndsH.st (S' := T19.setTop (mkF m 360 #[vi p0, vi p1, vi p2, vi p3, vi p4, vi x0, vi x1, vi x2, vi (Int32.ofNat tn), vr ca, vr tp, vr r4, vj (p0.toInt64), .second, vi (Int32.ofNat sg), vj (Int64.ofNat A), .second, vi (Int32.ofNat d), vi (Int32.ofNat sg), vi (Int32.ofNat (6 + sg + d)), vi (Int32.ofNat (6 + sg)), .unset, .unset] [(.int 3), (.long (Int64.ofNat A)), (.int (Int32.ofNat d)), (.int (Int32.ofNat (6 + sg))), (.ref r4)])) (fun _ k => ?_) ?_
  · refine XS.ifNo X19.here hx rfl (hb hby at_348) rfl ((if0 _ _).trans (feq (by decide)).1) ?_
    refine XS.aload X19.here hx rfl (hb hby at_351) rfl rfl ?_
    refine XS.iload X19.here hx rfl (hb hby at_353) rfl ?_
    refine XS.iload X19.here hx rfl (hb hby at_355) rfl ?_
    show Steps p.tables e below (T19.setTop (mkF m 357 #[vi p0, vi p1, vi p2, vi p3, vi p4, vi x0, vi x1, vi x2, vi (Int32.ofNat tn), vr ca, vr tp, vr r4, vj (p0.toInt64), .second, vi (Int32.ofNat sg), vj (Int64.ofNat A), .second, vi (Int32.ofNat d), vi (Int32.ofNat sg), vi (Int32.ofNat (6 + sg + d)), vi (Int32.ofNat (6 + sg)), .unset, .unset] [(.int (Int32.ofNat d)), (.int (Int32.ofNat (6 + sg))), (.ref r4)])) _
    refine XS.lload X19.here hx rfl (hb hby at_357) rfl ?_
    refine XS.iconst X19.here hx rfl (hb hby at_359) ?_
    exact k
  obtain ⟨_, T20, h20, L20, X20, e20, hQ20, st20⟩ := callC X19 hx hZ4 hown4 (wq hw 219 rfl) (wq hw 220 rfl) (wq hw 193 rfl) (wq hw 221 rfl) (by decide) (kc := 1) (ks := 10) (Con.sb (W := 0) (rm_digitOk l hD r4 3 tq4 kq4 sg A d ct O1 Eq4 Fc4 Fv4 V4 htp hDig hAb hsg hbd (by decide)) hZ4 (wq hw 221 rfl) (wq hw 193 rfl) (by decide) (by decide)) e19 (g := (mkF m 360 #[vi p0, vi p1, vi p2, vi p3, vi p4, vi x0, vi x1, vi x2, vi (Int32.ofNat tn), vr ca, vr tp, vr r4, vj (p0.toInt64), .second, vi (Int32.ofNat sg), vj (Int64.ofNat A), .second, vi (Int32.ofNat d), vi (Int32.ofNat sg), vi (Int32.ofNat (6 + sg + d)), vi (Int32.ofNat (6 + sg)), .unset, .unset] [(.int 3), (.long (Int64.ofNat A)), (.int (Int32.ofNat d)), (.int (Int32.ofNat (6 + sg))), (.ref r4)])) rfl (by rw [hml]; rfl) (argsL := [(.ref r4), (.int (Int32.ofNat (6 + sg))), (.int (Int32.ofNat d)), (.long (Int64.ofNat A)), (.int 3)]) (rest := []) (lenOf pd_31 rfl) rfl (by show 2 * 0 + _ ≤ _; exact Nat.le_of_eq rfl) (hb hby at_360) (by decide) (by decide)
  obtain ⟨rfl, Nq20, Kq20⟩ := hQ20
  refine OEndsH.st st20 ?_
  replace N16 := Fr.app N16 Nq20
  replace Fc4 := Fc4.keep Kq20 nin0
  replace Fv4 := Fv4.keep Kq20 nin0
  replace V4 := V4.keep Kq20 nin0
  replace Eq4 := Eq4.keep Kq20
  have A' : CHr Z EL s.vm s.heap vm4 h20 := A1.trans (CHr.keep Kq20 sf0 A1.1)
  replace A1 := A'
  replace hk4 := Nat.le_trans hk4 Kq20.1
  replace O1 : Ext Z.heap h20 := ext_keep O1 Kq20 all0
  refine OEndsH.st (S' := T20.setTop (mkF m 375 #[vi p0, vi p1, vi p2, vi p3, vi p4, vi x0, vi x1, vi x2, vi (Int32.ofNat tn), vr ca, vr tp, vr r4, vj (p0.toInt64), .second, vi (Int32.ofNat sg), vj (Int64.ofNat A), .second, vi (Int32.ofNat d), vi (Int32.ofNat sg), vi (Int32.ofNat (6 + sg + d)), vi (Int32.ofNat (6 + sg)), .unset, .unset] [(.int 4), (.long (Int64.ofNat A)), (.int (Int32.ofNat d)), (.int (Int32.ofNat (6 + sg))), (.ref r4)])) (fun _ k => ?_) ?_
  · refine XS.ifNo X20.here hx rfl (hb hby at_363) rfl ((if0 _ _).trans (feq (by decide)).1) ?_
    refine XS.aload X20.here hx rfl (hb hby at_366) rfl rfl ?_
    refine XS.iload X20.here hx rfl (hb hby at_368) rfl ?_
    refine XS.iload X20.here hx rfl (hb hby at_370) rfl ?_
    show Steps p.tables e below (T20.setTop (mkF m 372 #[vi p0, vi p1, vi p2, vi p3, vi p4, vi x0, vi x1, vi x2, vi (Int32.ofNat tn), vr ca, vr tp, vr r4, vj (p0.toInt64), .second, vi (Int32.ofNat sg), vj (Int64.ofNat A), .second, vi (Int32.ofNat d), vi (Int32.ofNat sg), vi (Int32.ofNat (6 + sg + d)), vi (Int32.ofNat (6 + sg)), .unset, .unset] [(.int (Int32.ofNat d)), (.int (Int32.ofNat (6 + sg))), (.ref r4)])) _
    refine XS.lload X20.here hx rfl (hb hby at_372) rfl ?_
    refine XS.iconst X20.here hx rfl (hb hby at_374) ?_
    exact k
  obtain ⟨_, T21, h21, L21, X21, e21, hQ21, st21⟩ := callC X20 hx hZ4 hown4 (wq hw 219 rfl) (wq hw 220 rfl) (wq hw 193 rfl) (wq hw 221 rfl) (by decide) (kc := 1) (ks := 10) (Con.sb (W := 0) (rm_digitOk l hD r4 4 tq4 kq4 sg A d ct O1 Eq4 Fc4 Fv4 V4 htp hDig hAb hsg hbd (by decide)) hZ4 (wq hw 221 rfl) (wq hw 193 rfl) (by decide) (by decide)) e20 (g := (mkF m 375 #[vi p0, vi p1, vi p2, vi p3, vi p4, vi x0, vi x1, vi x2, vi (Int32.ofNat tn), vr ca, vr tp, vr r4, vj (p0.toInt64), .second, vi (Int32.ofNat sg), vj (Int64.ofNat A), .second, vi (Int32.ofNat d), vi (Int32.ofNat sg), vi (Int32.ofNat (6 + sg + d)), vi (Int32.ofNat (6 + sg)), .unset, .unset] [(.int 4), (.long (Int64.ofNat A)), (.int (Int32.ofNat d)), (.int (Int32.ofNat (6 + sg))), (.ref r4)])) rfl (by rw [hml]; rfl) (argsL := [(.ref r4), (.int (Int32.ofNat (6 + sg))), (.int (Int32.ofNat d)), (.long (Int64.ofNat A)), (.int 4)]) (rest := []) (lenOf pd_31 rfl) rfl (by show 2 * 0 + _ ≤ _; exact Nat.le_of_eq rfl) (hb hby at_375) (by decide) (by decide)
  obtain ⟨rfl, Nq21, Kq21⟩ := hQ21
  refine OEndsH.st st21 ?_
  replace N16 := Fr.app N16 Nq21
  replace Fc4 := Fc4.keep Kq21 nin0
  replace Fv4 := Fv4.keep Kq21 nin0
  replace V4 := V4.keep Kq21 nin0
  replace Eq4 := Eq4.keep Kq21
  have A' : CHr Z EL s.vm s.heap vm4 h21 := A1.trans (CHr.keep Kq21 sf0 A1.1)
  replace A1 := A'
  replace hk4 := Nat.le_trans hk4 Kq21.1
  replace O1 : Ext Z.heap h21 := ext_keep O1 Kq21 all0
  refine OEndsH.st (S' := T21.setTop (mkF m 390 #[vi p0, vi p1, vi p2, vi p3, vi p4, vi x0, vi x1, vi x2, vi (Int32.ofNat tn), vr ca, vr tp, vr r4, vj (p0.toInt64), .second, vi (Int32.ofNat sg), vj (Int64.ofNat A), .second, vi (Int32.ofNat d), vi (Int32.ofNat sg), vi (Int32.ofNat (6 + sg + d)), vi (Int32.ofNat (6 + sg)), .unset, .unset] [(.int 5), (.long (Int64.ofNat A)), (.int (Int32.ofNat d)), (.int (Int32.ofNat (6 + sg))), (.ref r4)])) (fun _ k => ?_) ?_
  · refine XS.ifNo X21.here hx rfl (hb hby at_378) rfl ((if0 _ _).trans (feq (by decide)).1) ?_
    refine XS.aload X21.here hx rfl (hb hby at_381) rfl rfl ?_
    refine XS.iload X21.here hx rfl (hb hby at_383) rfl ?_
    refine XS.iload X21.here hx rfl (hb hby at_385) rfl ?_
    show Steps p.tables e below (T21.setTop (mkF m 387 #[vi p0, vi p1, vi p2, vi p3, vi p4, vi x0, vi x1, vi x2, vi (Int32.ofNat tn), vr ca, vr tp, vr r4, vj (p0.toInt64), .second, vi (Int32.ofNat sg), vj (Int64.ofNat A), .second, vi (Int32.ofNat d), vi (Int32.ofNat sg), vi (Int32.ofNat (6 + sg + d)), vi (Int32.ofNat (6 + sg)), .unset, .unset] [(.int (Int32.ofNat d)), (.int (Int32.ofNat (6 + sg))), (.ref r4)])) _
    refine XS.lload X21.here hx rfl (hb hby at_387) rfl ?_
    refine XS.iconst X21.here hx rfl (hb hby at_389) ?_
    exact k
  obtain ⟨_, T22, h22, L22, X22, e22, hQ22, st22⟩ := callC X21 hx hZ4 hown4 (wq hw 219 rfl) (wq hw 220 rfl) (wq hw 193 rfl) (wq hw 221 rfl) (by decide) (kc := 1) (ks := 10) (Con.sb (W := 0) (rm_digitOk l hD r4 5 tq4 kq4 sg A d ct O1 Eq4 Fc4 Fv4 V4 htp hDig hAb hsg hbd (by decide)) hZ4 (wq hw 221 rfl) (wq hw 193 rfl) (by decide) (by decide)) e21 (g := (mkF m 390 #[vi p0, vi p1, vi p2, vi p3, vi p4, vi x0, vi x1, vi x2, vi (Int32.ofNat tn), vr ca, vr tp, vr r4, vj (p0.toInt64), .second, vi (Int32.ofNat sg), vj (Int64.ofNat A), .second, vi (Int32.ofNat d), vi (Int32.ofNat sg), vi (Int32.ofNat (6 + sg + d)), vi (Int32.ofNat (6 + sg)), .unset, .unset] [(.int 5), (.long (Int64.ofNat A)), (.int (Int32.ofNat d)), (.int (Int32.ofNat (6 + sg))), (.ref r4)])) rfl (by rw [hml]; rfl) (argsL := [(.ref r4), (.int (Int32.ofNat (6 + sg))), (.int (Int32.ofNat d)), (.long (Int64.ofNat A)), (.int 5)]) (rest := []) (lenOf pd_31 rfl) rfl (by show 2 * 0 + _ ≤ _; exact Nat.le_of_eq rfl) (hb hby at_390) (by decide) (by decide)
  obtain ⟨rfl, Nq22, Kq22⟩ := hQ22
  refine OEndsH.st st22 ?_
  replace N16 := Fr.app N16 Nq22
  replace Fc4 := Fc4.keep Kq22 nin0
  replace Fv4 := Fv4.keep Kq22 nin0
  replace V4 := V4.keep Kq22 nin0
  replace Eq4 := Eq4.keep Kq22
  have A' : CHr Z EL s.vm s.heap vm4 h22 := A1.trans (CHr.keep Kq22 sf0 A1.1)
  replace A1 := A'
  replace hk4 := Nat.le_trans hk4 Kq22.1
  replace O1 : Ext Z.heap h22 := ext_keep O1 Kq22 all0
  refine OEndsH.st (S' := T22.setTop (mkF m 406 #[vi p0, vi p1, vi p2, vi p3, vi p4, vi x0, vi x1, vi x2, vi (Int32.ofNat tn), vr ca, vr tp, vr r4, vj (p0.toInt64), .second, vi (Int32.ofNat sg), vj (Int64.ofNat A), .second, vi (Int32.ofNat d), vi (Int32.ofNat sg), vi (Int32.ofNat (6 + sg + d)), vi (Int32.ofNat (6 + sg)), .unset, .unset] [(.int 6), (.long (Int64.ofNat A)), (.int (Int32.ofNat d)), (.int (Int32.ofNat (6 + sg))), (.ref r4)])) (fun _ k => ?_) ?_
  · refine XS.ifNo X22.here hx rfl (hb hby at_393) rfl ((if0 _ _).trans (feq (by decide)).1) ?_
    refine XS.aload X22.here hx rfl (hb hby at_396) rfl rfl ?_
    refine XS.iload X22.here hx rfl (hb hby at_398) rfl ?_
    refine XS.iload X22.here hx rfl (hb hby at_400) rfl ?_
    show Steps p.tables e below (T22.setTop (mkF m 402 #[vi p0, vi p1, vi p2, vi p3, vi p4, vi x0, vi x1, vi x2, vi (Int32.ofNat tn), vr ca, vr tp, vr r4, vj (p0.toInt64), .second, vi (Int32.ofNat sg), vj (Int64.ofNat A), .second, vi (Int32.ofNat d), vi (Int32.ofNat sg), vi (Int32.ofNat (6 + sg + d)), vi (Int32.ofNat (6 + sg)), .unset, .unset] [(.int (Int32.ofNat d)), (.int (Int32.ofNat (6 + sg))), (.ref r4)])) _
    refine XS.lload X22.here hx rfl (hb hby at_402) rfl ?_
    refine XS.bipush X22.here hx rfl (hb hby at_404) ?_
    exact k
  obtain ⟨_, T23, h23, L23, X23, e23, hQ23, st23⟩ := callC X22 hx hZ4 hown4 (wq hw 219 rfl) (wq hw 220 rfl) (wq hw 193 rfl) (wq hw 221 rfl) (by decide) (kc := 1) (ks := 10) (Con.sb (W := 0) (rm_digitOk l hD r4 6 tq4 kq4 sg A d ct O1 Eq4 Fc4 Fv4 V4 htp hDig hAb hsg hbd (by decide)) hZ4 (wq hw 221 rfl) (wq hw 193 rfl) (by decide) (by decide)) e22 (g := (mkF m 406 #[vi p0, vi p1, vi p2, vi p3, vi p4, vi x0, vi x1, vi x2, vi (Int32.ofNat tn), vr ca, vr tp, vr r4, vj (p0.toInt64), .second, vi (Int32.ofNat sg), vj (Int64.ofNat A), .second, vi (Int32.ofNat d), vi (Int32.ofNat sg), vi (Int32.ofNat (6 + sg + d)), vi (Int32.ofNat (6 + sg)), .unset, .unset] [(.int 6), (.long (Int64.ofNat A)), (.int (Int32.ofNat d)), (.int (Int32.ofNat (6 + sg))), (.ref r4)])) rfl (by rw [hml]; rfl) (argsL := [(.ref r4), (.int (Int32.ofNat (6 + sg))), (.int (Int32.ofNat d)), (.long (Int64.ofNat A)), (.int 6)]) (rest := []) (lenOf pd_31 rfl) rfl (by show 2 * 0 + _ ≤ _; exact Nat.le_of_eq rfl) (hb hby at_406) (by decide) (by decide)
  obtain ⟨rfl, Nq23, Kq23⟩ := hQ23
  refine OEndsH.st st23 ?_
  replace N16 := Fr.app N16 Nq23
  replace Fc4 := Fc4.keep Kq23 nin0
  replace Fv4 := Fv4.keep Kq23 nin0
  replace V4 := V4.keep Kq23 nin0
  replace Eq4 := Eq4.keep Kq23
  have A' : CHr Z EL s.vm s.heap vm4 h23 := A1.trans (CHr.keep Kq23 sf0 A1.1)
  replace A1 := A'
  replace hk4 := Nat.le_trans hk4 Kq23.1
  replace O1 : Ext Z.heap h23 := ext_keep O1 Kq23 all0
  refine OEndsH.st (S' := T23.setTop (mkF m 422 #[vi p0, vi p1, vi p2, vi p3, vi p4, vi x0, vi x1, vi x2, vi (Int32.ofNat tn), vr ca, vr tp, vr r4, vj (p0.toInt64), .second, vi (Int32.ofNat sg), vj (Int64.ofNat A), .second, vi (Int32.ofNat d), vi (Int32.ofNat sg), vi (Int32.ofNat (6 + sg + d)), vi (Int32.ofNat (6 + sg)), .unset, .unset] [(.int 7), (.long (Int64.ofNat A)), (.int (Int32.ofNat d)), (.int (Int32.ofNat (6 + sg))), (.ref r4)])) (fun _ k => ?_) ?_
  · refine XS.ifNo X23.here hx rfl (hb hby at_409) rfl ((if0 _ _).trans (feq (by decide)).1) ?_
    refine XS.aload X23.here hx rfl (hb hby at_412) rfl rfl ?_
    refine XS.iload X23.here hx rfl (hb hby at_414) rfl ?_
    refine XS.iload X23.here hx rfl (hb hby at_416) rfl ?_
    show Steps p.tables e below (T23.setTop (mkF m 418 #[vi p0, vi p1, vi p2, vi p3, vi p4, vi x0, vi x1, vi x2, vi (Int32.ofNat tn), vr ca, vr tp, vr r4, vj (p0.toInt64), .second, vi (Int32.ofNat sg), vj (Int64.ofNat A), .second, vi (Int32.ofNat d), vi (Int32.ofNat sg), vi (Int32.ofNat (6 + sg + d)), vi (Int32.ofNat (6 + sg)), .unset, .unset] [(.int (Int32.ofNat d)), (.int (Int32.ofNat (6 + sg))), (.ref r4)])) _
    refine XS.lload X23.here hx rfl (hb hby at_418) rfl ?_
    refine XS.bipush X23.here hx rfl (hb hby at_420) ?_
    exact k
  obtain ⟨_, T24, h24, L24, X24, e24, hQ24, st24⟩ := callC X23 hx hZ4 hown4 (wq hw 219 rfl) (wq hw 220 rfl) (wq hw 193 rfl) (wq hw 221 rfl) (by decide) (kc := 1) (ks := 10) (Con.sb (W := 0) (rm_digitOk l hD r4 7 tq4 kq4 sg A d ct O1 Eq4 Fc4 Fv4 V4 htp hDig hAb hsg hbd (by decide)) hZ4 (wq hw 221 rfl) (wq hw 193 rfl) (by decide) (by decide)) e23 (g := (mkF m 422 #[vi p0, vi p1, vi p2, vi p3, vi p4, vi x0, vi x1, vi x2, vi (Int32.ofNat tn), vr ca, vr tp, vr r4, vj (p0.toInt64), .second, vi (Int32.ofNat sg), vj (Int64.ofNat A), .second, vi (Int32.ofNat d), vi (Int32.ofNat sg), vi (Int32.ofNat (6 + sg + d)), vi (Int32.ofNat (6 + sg)), .unset, .unset] [(.int 7), (.long (Int64.ofNat A)), (.int (Int32.ofNat d)), (.int (Int32.ofNat (6 + sg))), (.ref r4)])) rfl (by rw [hml]; rfl) (argsL := [(.ref r4), (.int (Int32.ofNat (6 + sg))), (.int (Int32.ofNat d)), (.long (Int64.ofNat A)), (.int 7)]) (rest := []) (lenOf pd_31 rfl) rfl (by show 2 * 0 + _ ≤ _; exact Nat.le_of_eq rfl) (hb hby at_422) (by decide) (by decide)
  obtain ⟨rfl, Nq24, Kq24⟩ := hQ24
  refine OEndsH.st st24 ?_
  replace N16 := Fr.app N16 Nq24
  replace Fc4 := Fc4.keep Kq24 nin0
  replace Fv4 := Fv4.keep Kq24 nin0
  replace V4 := V4.keep Kq24 nin0
  replace Eq4 := Eq4.keep Kq24
  have A' : CHr Z EL s.vm s.heap vm4 h24 := A1.trans (CHr.keep Kq24 sf0 A1.1)
  replace A1 := A'
  replace hk4 := Nat.le_trans hk4 Kq24.1
  replace O1 : Ext Z.heap h24 := ext_keep O1 Kq24 all0
  refine OEndsH.st (S' := T24.setTop (mkF m 438 #[vi p0, vi p1, vi p2, vi p3, vi p4, vi x0, vi x1, vi x2, vi (Int32.ofNat tn), vr ca, vr tp, vr r4, vj (p0.toInt64), .second, vi (Int32.ofNat sg), vj (Int64.ofNat A), .second, vi (Int32.ofNat d), vi (Int32.ofNat sg), vi (Int32.ofNat (6 + sg + d)), vi (Int32.ofNat (6 + sg)), .unset, .unset] [(.int 8), (.long (Int64.ofNat A)), (.int (Int32.ofNat d)), (.int (Int32.ofNat (6 + sg))), (.ref r4)])) (fun _ k => ?_) ?_
  · refine XS.ifNo X24.here hx rfl (hb hby at_425) rfl ((if0 _ _).trans (feq (by decide)).1) ?_
    refine XS.aload X24.here hx rfl (hb hby at_428) rfl rfl ?_
    refine XS.iload X24.here hx rfl (hb hby at_430) rfl ?_
    refine XS.iload X24.here hx rfl (hb hby at_432) rfl ?_
    show Steps p.tables e below (T24.setTop (mkF m 434 #[vi p0, vi p1, vi p2, vi p3, vi p4, vi x0, vi x1, vi x2, vi (Int32.ofNat tn), vr ca, vr tp, vr r4, vj (p0.toInt64), .second, vi (Int32.ofNat sg), vj (Int64.ofNat A), .second, vi (Int32.ofNat d), vi (Int32.ofNat sg), vi (Int32.ofNat (6 + sg + d)), vi (Int32.ofNat (6 + sg)), .unset, .unset] [(.int (Int32.ofNat d)), (.int (Int32.ofNat (6 + sg))), (.ref r4)])) _
    refine XS.lload X24.here hx rfl (hb hby at_434) rfl ?_
    refine XS.bipush X24.here hx rfl (hb hby at_436) ?_
    exact k
  obtain ⟨_, T25, h25, L25, X25, e25, hQ25, st25⟩ := callC X24 hx hZ4 hown4 (wq hw 219 rfl) (wq hw 220 rfl) (wq hw 193 rfl) (wq hw 221 rfl) (by decide) (kc := 1) (ks := 10) (Con.sb (W := 0) (rm_digitOk l hD r4 8 tq4 kq4 sg A d ct O1 Eq4 Fc4 Fv4 V4 htp hDig hAb hsg hbd (by decide)) hZ4 (wq hw 221 rfl) (wq hw 193 rfl) (by decide) (by decide)) e24 (g := (mkF m 438 #[vi p0, vi p1, vi p2, vi p3, vi p4, vi x0, vi x1, vi x2, vi (Int32.ofNat tn), vr ca, vr tp, vr r4, vj (p0.toInt64), .second, vi (Int32.ofNat sg), vj (Int64.ofNat A), .second, vi (Int32.ofNat d), vi (Int32.ofNat sg), vi (Int32.ofNat (6 + sg + d)), vi (Int32.ofNat (6 + sg)), .unset, .unset] [(.int 8), (.long (Int64.ofNat A)), (.int (Int32.ofNat d)), (.int (Int32.ofNat (6 + sg))), (.ref r4)])) rfl (by rw [hml]; rfl) (argsL := [(.ref r4), (.int (Int32.ofNat (6 + sg))), (.int (Int32.ofNat d)), (.long (Int64.ofNat A)), (.int 8)]) (rest := []) (lenOf pd_31 rfl) rfl (by show 2 * 0 + _ ≤ _; exact Nat.le_of_eq rfl) (hb hby at_438) (by decide) (by decide)
  obtain ⟨rfl, Nq25, Kq25⟩ := hQ25
  refine OEndsH.st st25 ?_
  replace N16 := Fr.app N16 Nq25
  replace Fc4 := Fc4.keep Kq25 nin0
  replace Fv4 := Fv4.keep Kq25 nin0
  replace V4 := V4.keep Kq25 nin0
  replace Eq4 := Eq4.keep Kq25
  have A' : CHr Z EL s.vm s.heap vm4 h25 := A1.trans (CHr.keep Kq25 sf0 A1.1)
  replace A1 := A'
  replace hk4 := Nat.le_trans hk4 Kq25.1
  replace O1 : Ext Z.heap h25 := ext_keep O1 Kq25 all0
  refine OEndsH.st (S' := T25.setTop (mkF m 454 #[vi p0, vi p1, vi p2, vi p3, vi p4, vi x0, vi x1, vi x2, vi (Int32.ofNat tn), vr ca, vr tp, vr r4, vj (p0.toInt64), .second, vi (Int32.ofNat sg), vj (Int64.ofNat A), .second, vi (Int32.ofNat d), vi (Int32.ofNat sg), vi (Int32.ofNat (6 + sg + d)), vi (Int32.ofNat (6 + sg)), .unset, .unset] [(.int 9), (.long (Int64.ofNat A)), (.int (Int32.ofNat d)), (.int (Int32.ofNat (6 + sg))), (.ref r4)])) (fun _ k => ?_) ?_
  · refine XS.ifNo X25.here hx rfl (hb hby at_441) rfl ((if0 _ _).trans (feq (by decide)).1) ?_
    refine XS.aload X25.here hx rfl (hb hby at_444) rfl rfl ?_
    refine XS.iload X25.here hx rfl (hb hby at_446) rfl ?_
    refine XS.iload X25.here hx rfl (hb hby at_448) rfl ?_
    show Steps p.tables e below (T25.setTop (mkF m 450 #[vi p0, vi p1, vi p2, vi p3, vi p4, vi x0, vi x1, vi x2, vi (Int32.ofNat tn), vr ca, vr tp, vr r4, vj (p0.toInt64), .second, vi (Int32.ofNat sg), vj (Int64.ofNat A), .second, vi (Int32.ofNat d), vi (Int32.ofNat sg), vi (Int32.ofNat (6 + sg + d)), vi (Int32.ofNat (6 + sg)), .unset, .unset] [(.int (Int32.ofNat d)), (.int (Int32.ofNat (6 + sg))), (.ref r4)])) _
    refine XS.lload X25.here hx rfl (hb hby at_450) rfl ?_
    refine XS.bipush X25.here hx rfl (hb hby at_452) ?_
    exact k
  obtain ⟨_, T26, h26, L26, X26, e26, hQ26, st26⟩ := callC X25 hx hZ4 hown4 (wq hw 219 rfl) (wq hw 220 rfl) (wq hw 193 rfl) (wq hw 221 rfl) (by decide) (kc := 1) (ks := 10) (Con.sb (W := 0) (rm_digitOk l hD r4 9 tq4 kq4 sg A d ct O1 Eq4 Fc4 Fv4 V4 htp hDig hAb hsg hbd (by decide)) hZ4 (wq hw 221 rfl) (wq hw 193 rfl) (by decide) (by decide)) e25 (g := (mkF m 454 #[vi p0, vi p1, vi p2, vi p3, vi p4, vi x0, vi x1, vi x2, vi (Int32.ofNat tn), vr ca, vr tp, vr r4, vj (p0.toInt64), .second, vi (Int32.ofNat sg), vj (Int64.ofNat A), .second, vi (Int32.ofNat d), vi (Int32.ofNat sg), vi (Int32.ofNat (6 + sg + d)), vi (Int32.ofNat (6 + sg)), .unset, .unset] [(.int 9), (.long (Int64.ofNat A)), (.int (Int32.ofNat d)), (.int (Int32.ofNat (6 + sg))), (.ref r4)])) rfl (by rw [hml]; rfl) (argsL := [(.ref r4), (.int (Int32.ofNat (6 + sg))), (.int (Int32.ofNat d)), (.long (Int64.ofNat A)), (.int 9)]) (rest := []) (lenOf pd_31 rfl) rfl (by show 2 * 0 + _ ≤ _; exact Nat.le_of_eq rfl) (hb hby at_454) (by decide) (by decide)
  obtain ⟨rfl, Nq26, Kq26⟩ := hQ26
  refine OEndsH.st st26 ?_
  replace N16 := Fr.app N16 Nq26
  replace Fc4 := Fc4.keep Kq26 nin0
  replace Fv4 := Fv4.keep Kq26 nin0
  replace V4 := V4.keep Kq26 nin0
  replace Eq4 := Eq4.keep Kq26
  have A' : CHr Z EL s.vm s.heap vm4 h26 := A1.trans (CHr.keep Kq26 sf0 A1.1)
  replace A1 := A'
  replace hk4 := Nat.le_trans hk4 Kq26.1
  replace O1 : Ext Z.heap h26 := ext_keep O1 Kq26 all0
  refine OEndsH.st (S' := T26.setTop (mkF m 478 #[vi p0, vi p1, vi p2, vi p3, vi p4, vi x0, vi x1, vi x2, vi (Int32.ofNat tn), vr ca, vr tp, vr r4, vj (p0.toInt64), .second, vi (Int32.ofNat sg), vj (Int64.ofNat A), .second, vi (Int32.ofNat d), vi (Int32.ofNat sg), vi (Int32.ofNat (6 + sg + d)), vi (Int32.ofNat (6 + sg)), vi 1, .unset] [(.int (Int32.ofNat (6 + sg + d))), (.ref r4)])) (fun _ k => ?_) ?_
  · refine XS.ifNo X26.here hx rfl (hb hby at_457) rfl ((if0 _ _).trans (feq (by decide)).1) ?_
    refine XS.iconst X26.here hx rfl (hb hby at_460) ?_
    refine XS.goto X26.here hx rfl (pc0 := 461) (pc' := 465) rfl (hb hby at_461) (by decide) (by decide) ?_
    refine XS.istore X26.here hx rfl (hb hby at_465) rfl (l' := #[vi p0, vi p1, vi p2, vi p3, vi p4, vi x0, vi x1, vi x2, vi (Int32.ofNat tn), vr ca, vr tp, vr r4, vj (p0.toInt64), .second, vi (Int32.ofNat sg), vj (Int64.ofNat A), .second, vi (Int32.ofNat d), vi (Int32.ofNat sg), vi (Int32.ofNat (6 + sg + d)), vi (Int32.ofNat (6 + sg)), vi 1, .unset]) rfl ?_
    show Steps p.tables e below (T26.setTop (mkF m 467 #[vi p0, vi p1, vi p2, vi p3, vi p4, vi x0, vi x1, vi x2, vi (Int32.ofNat tn), vr ca, vr tp, vr r4, vj (p0.toInt64), .second, vi (Int32.ofNat sg), vj (Int64.ofNat A), .second, vi (Int32.ofNat d), vi (Int32.ofNat sg), vi (Int32.ofNat (6 + sg + d)), vi (Int32.ofNat (6 + sg)), vi 1, .unset] [])) _
    refine XS.iload X26.here hx rfl (hb hby at_467) rfl ?_
    refine XS.ifYes X26.here hx rfl (pc0 := 469) (pc' := 474) rfl (hb hby at_469) rfl ((if0 _ _).trans (feq (by decide)).2) (by decide) (by decide) ?_
    refine XS.aload X26.here hx rfl (hb hby at_474) rfl rfl ?_
    refine XS.iload X26.here hx rfl (hb hby at_476) rfl ?_
    exact k
  obtain ⟨_, T27, h27, L27, X27, e27, hQ27, st27⟩ := callC X26 hx hZ4 hown4 (wq hw 234 rfl) (wq hw 235 rfl) (wq hw 193 rfl) (wq hw 236 rfl) (by decide) (kc := 0) (ks := 0) (Con.sb (W := 0) (rm_ofTopic l hD r4 tq4 kq4 sg A d ct O1 Eq4 Fc4 Fv4 V4 htp hDig hAb hsg hbd) hZ4 (wq hw 236 rfl) (wq hw 193 rfl) (by decide) (by decide)) e26 (g := (mkF m 478 #[vi p0, vi p1, vi p2, vi p3, vi p4, vi x0, vi x1, vi x2, vi (Int32.ofNat tn), vr ca, vr tp, vr r4, vj (p0.toInt64), .second, vi (Int32.ofNat sg), vj (Int64.ofNat A), .second, vi (Int32.ofNat d), vi (Int32.ofNat sg), vi (Int32.ofNat (6 + sg + d)), vi (Int32.ofNat (6 + sg)), vi 1, .unset] [(.int (Int32.ofNat (6 + sg + d))), (.ref r4)])) rfl (by rw [hml]; rfl) (argsL := [(.ref r4), (.int (Int32.ofNat (6 + sg + d)))]) (rest := []) (lenOf pd_32 rfl) rfl (by show 2 * 0 + _ ≤ _; exact Nat.le_of_eq rfl) (hb hby at_478) (by decide) (by decide)
  obtain ⟨rfl, Nq27, Hq27⟩ := hQ27
  refine OEndsH.st st27 ?_
  replace N16 := Fr.app N16 Nq27
  replace e27 := e27.trans Hq27
  refine OEndsH.st (S' := T27.setTop (mkF m 491 #[vi p0, vi p1, vi p2, vi p3, vi p4, vi x0, vi x1, vi x2, vi (Int32.ofNat tn), vr ca, vr tp, vr r4, vj (p0.toInt64), .second, vi (Int32.ofNat sg), vj (Int64.ofNat A), .second, vi (Int32.ofNat d), vi (Int32.ofNat sg), vi (Int32.ofNat (6 + sg + d)), vi (Int32.ofNat (6 + sg)), vi 1, .unset] [(.int ((Int32.ofNat (6 + sg + d)) + (10 : Int32)))])) (fun _ k => ?_) ?_
  · refine XS.ifYes X27.here hx rfl (pc0 := 481) (pc' := 486) rfl (hb hby at_481) rfl ((if0 _ _).trans (feq (by decide)).2) (by decide) (by decide) ?_
    refine XS.iload X27.here hx rfl (hb hby at_486) rfl ?_
    refine XS.bipush X27.here hx rfl (hb hby at_488) ?_
    refine XS.iadd X27.here hx rfl (hb hby at_490) rfl ?_
    exact k
  rw [show Int32.ofNat (6 + sg + d) + (10 : Int32) = Int32.ofNat (6 + sg + d + 10) from ofn_add (6 + sg + d) 10]
  refine OEndsH.st (S' := T27.setTop (mkF m 496 #[vi p0, vi p1, vi p2, vi p3, vi p4, vi x0, vi x1, vi x2, vi (Int32.ofNat tn), vr ca, vr tp, vr r4, vj (p0.toInt64), .second, vi (Int32.ofNat sg), vj (Int64.ofNat A), .second, vi (Int32.ofNat d), vi (Int32.ofNat sg), vi (Int32.ofNat (6 + sg + d)), vi (Int32.ofNat (6 + sg)), vi 1, vi (Int32.ofNat (6 + sg + d + 10))] [(.int 1), (.int (Int32.ofNat tn))])) (fun _ k => ?_) ?_
  · refine XS.istore X27.here hx rfl (hb hby at_491) rfl (l' := #[vi p0, vi p1, vi p2, vi p3, vi p4, vi x0, vi x1, vi x2, vi (Int32.ofNat tn), vr ca, vr tp, vr r4, vj (p0.toInt64), .second, vi (Int32.ofNat sg), vj (Int64.ofNat A), .second, vi (Int32.ofNat d), vi (Int32.ofNat sg), vi (Int32.ofNat (6 + sg + d)), vi (Int32.ofNat (6 + sg)), vi 1, vi (Int32.ofNat (6 + sg + d + 10))]) rfl ?_
    refine XS.iload X27.here hx rfl (hb hby at_493) rfl ?_
    refine XS.iconst X27.here hx rfl (hb hby at_495) ?_
    exact k
  rcases Classical.em ((Int32.ofNat tn) < (1 : Int32)) with t1 | t1
  · refine OEndsH.st (S' := T27.setTop (mkF m 558 #[vi p0, vi p1, vi p2, vi p3, vi p4, vi x0, vi x1, vi x2, vi (Int32.ofNat tn), vr ca, vr tp, vr r4, vj (p0.toInt64), .second, vi (Int32.ofNat sg), vj (Int64.ofNat A), .second, vi (Int32.ofNat d), vi (Int32.ofNat sg), vi (Int32.ofNat (6 + sg + d)), vi (Int32.ofNat (6 + sg)), vi 1, vi (Int32.ofNat (6 + sg + d + 10))] [(.int 1)])) (fun _ k => ?_) ?_
    · refine XS.icmpYes X27.here hx rfl (pc0 := 496) (pc' := 513) rfl (hb hby at_496) rfl (tlt t1).1 (by decide) (by decide) ?_
      refine XS.iload X27.here hx rfl (hb hby at_513) rfl ?_
      refine XS.iconst X27.here hx rfl (hb hby at_515) ?_
      refine XS.icmpYes X27.here hx rfl (pc0 := 516) (pc' := 535) rfl (hb hby at_516) rfl (tlt (lt_up t1 (by decide))).1 (by decide) (by decide) ?_
      show Steps p.tables e below (T27.setTop (mkF m 535 #[vi p0, vi p1, vi p2, vi p3, vi p4, vi x0, vi x1, vi x2, vi (Int32.ofNat tn), vr ca, vr tp, vr r4, vj (p0.toInt64), .second, vi (Int32.ofNat sg), vj (Int64.ofNat A), .second, vi (Int32.ofNat d), vi (Int32.ofNat sg), vi (Int32.ofNat (6 + sg + d)), vi (Int32.ofNat (6 + sg)), vi 1, vi (Int32.ofNat (6 + sg + d + 10))] [])) _
      refine XS.iload X27.here hx rfl (hb hby at_535) rfl ?_
      refine XS.iconst X27.here hx rfl (hb hby at_537) ?_
      refine XS.icmpYes X27.here hx rfl (pc0 := 538) (pc' := 557) rfl (hb hby at_538) rfl (tlt (lt_up t1 (by decide))).1 (by decide) (by decide) ?_
      refine XS.iconst X27.here hx rfl (hb hby at_557) ?_
      exact k
    exact OEndsH.ret X27 hx hZ4 hEL e27 hS4 hk4 A1 hret hlk (by decide) (Or.inl ⟨rfl, by simp, _, rfl⟩) (hb hby at_558) (by decide) (by decide) ⟨rfl, N16⟩
  · have u1 : 1 ≤ tn := nlt_of (k := 1) htn (by decide) t1
    refine OEndsH.st (S' := T27.setTop (mkF m 503 #[vi p0, vi p1, vi p2, vi p3, vi p4, vi x0, vi x1, vi x2, vi (Int32.ofNat tn), vr ca, vr tp, vr r4, vj (p0.toInt64), .second, vi (Int32.ofNat sg), vj (Int64.ofNat A), .second, vi (Int32.ofNat d), vi (Int32.ofNat sg), vi (Int32.ofNat (6 + sg + d)), vi (Int32.ofNat (6 + sg)), vi 1, vi (Int32.ofNat (6 + sg + d + 10))] [(.int (Int32.ofNat (6 + sg + d + 10))), (.ref r4)])) (fun _ k => ?_) ?_
    · refine XS.icmpNo X27.here hx rfl (hb hby at_496) rfl (flt t1).1 ?_
      refine XS.aload X27.here hx rfl (hb hby at_499) rfl rfl ?_
      refine XS.iload X27.here hx rfl (hb hby at_501) rfl ?_
      exact k
    obtain ⟨_, T28, h28, L28, X28, e28, hQ28, st28⟩ := virtC X27 hx hZ4 (y := (⟨"java/lang/String", "charAt", "(I)C"⟩ : MethodName)) (z := (⟨"java/lang/String", "charAt", "(I)C"⟩ : MethodName)) hown4 (wq hw 197 rfl) (wq hw 198 rfl) (nf_sel (args := #[]) (mvT hZ4 (wq hw 75 rfl)) rfl) (wq hw 200 rfl) (wq hw 199 rfl) (by decide) (kc := 0) (ks := 0) (Con.sb (W := 0) (rm_chAt l hD r4 (6 + sg + d + 10) tq4 kq4 (qs sg A d ct) x0 O1 Eq4 Fc4 Fv4 V4 hql (qs_tp (j := 0) (by rw [hct]; exact tk_at rfl (by omega))) hx0) hZ4 (wq hw 201 rfl) (wq hw 3 rfl) (by decide) (by decide)) e27 Eq4 (g := (mkF m 503 #[vi p0, vi p1, vi p2, vi p3, vi p4, vi x0, vi x1, vi x2, vi (Int32.ofNat tn), vr ca, vr tp, vr r4, vj (p0.toInt64), .second, vi (Int32.ofNat sg), vj (Int64.ofNat A), .second, vi (Int32.ofNat d), vi (Int32.ofNat sg), vi (Int32.ofNat (6 + sg + d)), vi (Int32.ofNat (6 + sg)), vi 1, vi (Int32.ofNat (6 + sg + d + 10))] [(.int (Int32.ofNat (6 + sg + d + 10))), (.ref r4)])) rfl (by rw [hml]; rfl) (argsL := [(.int (Int32.ofNat (6 + sg + d + 10)))]) (rest := []) (lenOf pd_26 rfl) rfl (by show 2 * 0 + _ ≤ _; exact Nat.le_of_eq rfl) (hb hby at_503) (by decide) (by decide)
    obtain ⟨rfl, Nq28, Hq28⟩ := hQ28
    refine OEndsH.st st28 ?_
    replace N16 := Fr.app N16 Nq28
    replace e28 := e28.trans Hq28
    refine OEndsH.st (S' := T28.setTop (mkF m 516 #[vi p0, vi p1, vi p2, vi p3, vi p4, vi x0, vi x1, vi x2, vi (Int32.ofNat tn), vr ca, vr tp, vr r4, vj (p0.toInt64), .second, vi (Int32.ofNat sg), vj (Int64.ofNat A), .second, vi (Int32.ofNat d), vi (Int32.ofNat sg), vi (Int32.ofNat (6 + sg + d)), vi (Int32.ofNat (6 + sg)), vi 1, vi (Int32.ofNat (6 + sg + d + 10))] [(.int 2), (.int (Int32.ofNat tn))])) (fun _ k => ?_) ?_
    · refine XS.iload X28.here hx rfl (hb hby at_506) rfl ?_
      refine XS.icmpYes X28.here hx rfl (pc0 := 508) (pc' := 513) rfl (hb hby at_508) rfl (teq rfl).1 (by decide) (by decide) ?_
      refine XS.iload X28.here hx rfl (hb hby at_513) rfl ?_
      refine XS.iconst X28.here hx rfl (hb hby at_515) ?_
      exact k
    rcases Classical.em ((Int32.ofNat tn) < (2 : Int32)) with t2 | t2
    · refine OEndsH.st (S' := T28.setTop (mkF m 558 #[vi p0, vi p1, vi p2, vi p3, vi p4, vi x0, vi x1, vi x2, vi (Int32.ofNat tn), vr ca, vr tp, vr r4, vj (p0.toInt64), .second, vi (Int32.ofNat sg), vj (Int64.ofNat A), .second, vi (Int32.ofNat d), vi (Int32.ofNat sg), vi (Int32.ofNat (6 + sg + d)), vi (Int32.ofNat (6 + sg)), vi 1, vi (Int32.ofNat (6 + sg + d + 10))] [(.int 1)])) (fun _ k => ?_) ?_
      · refine XS.icmpYes X28.here hx rfl (pc0 := 516) (pc' := 535) rfl (hb hby at_516) rfl (tlt t2).1 (by decide) (by decide) ?_
        refine XS.iload X28.here hx rfl (hb hby at_535) rfl ?_
        refine XS.iconst X28.here hx rfl (hb hby at_537) ?_
        refine XS.icmpYes X28.here hx rfl (pc0 := 538) (pc' := 557) rfl (hb hby at_538) rfl (tlt (lt_up t2 (by decide))).1 (by decide) (by decide) ?_
        show Steps p.tables e below (T28.setTop (mkF m 557 #[vi p0, vi p1, vi p2, vi p3, vi p4, vi x0, vi x1, vi x2, vi (Int32.ofNat tn), vr ca, vr tp, vr r4, vj (p0.toInt64), .second, vi (Int32.ofNat sg), vj (Int64.ofNat A), .second, vi (Int32.ofNat d), vi (Int32.ofNat sg), vi (Int32.ofNat (6 + sg + d)), vi (Int32.ofNat (6 + sg)), vi 1, vi (Int32.ofNat (6 + sg + d + 10))] [])) _
        refine XS.iconst X28.here hx rfl (hb hby at_557) ?_
        exact k
      exact OEndsH.ret X28 hx hZ4 hEL e28 hS4 hk4 A1 hret hlk (by decide) (Or.inl ⟨rfl, by simp, _, rfl⟩) (hb hby at_558) (by decide) (by decide) ⟨rfl, N16⟩
    · have u2 : 2 ≤ tn := nlt_of (k := 2) htn (by decide) t2
      refine OEndsH.st (S' := T28.setTop (mkF m 525 #[vi p0, vi p1, vi p2, vi p3, vi p4, vi x0, vi x1, vi x2, vi (Int32.ofNat tn), vr ca, vr tp, vr r4, vj (p0.toInt64), .second, vi (Int32.ofNat sg), vj (Int64.ofNat A), .second, vi (Int32.ofNat d), vi (Int32.ofNat sg), vi (Int32.ofNat (6 + sg + d)), vi (Int32.ofNat (6 + sg)), vi 1, vi (Int32.ofNat (6 + sg + d + 10))] [(.int ((Int32.ofNat (6 + sg + d + 10)) + (1 : Int32))), (.ref r4)])) (fun _ k => ?_) ?_
      · refine XS.icmpNo X28.here hx rfl (hb hby at_516) rfl (flt t2).1 ?_
        refine XS.aload X28.here hx rfl (hb hby at_519) rfl rfl ?_
        refine XS.iload X28.here hx rfl (hb hby at_521) rfl ?_
        refine XS.iconst X28.here hx rfl (hb hby at_523) ?_
        show Steps p.tables e below (T28.setTop (mkF m 524 #[vi p0, vi p1, vi p2, vi p3, vi p4, vi x0, vi x1, vi x2, vi (Int32.ofNat tn), vr ca, vr tp, vr r4, vj (p0.toInt64), .second, vi (Int32.ofNat sg), vj (Int64.ofNat A), .second, vi (Int32.ofNat d), vi (Int32.ofNat sg), vi (Int32.ofNat (6 + sg + d)), vi (Int32.ofNat (6 + sg)), vi 1, vi (Int32.ofNat (6 + sg + d + 10))] [(.int 1), (.int (Int32.ofNat (6 + sg + d + 10))), (.ref r4)])) _
        refine XS.iadd X28.here hx rfl (hb hby at_524) rfl ?_
        exact k
      rw [show Int32.ofNat (6 + sg + d + 10) + (1 : Int32) = Int32.ofNat (6 + sg + d + 10 + 1) from ofn_add (6 + sg + d + 10) 1]
      obtain ⟨_, T29, h29, L29, X29, e29, hQ29, st29⟩ := virtC X28 hx hZ4 (y := (⟨"java/lang/String", "charAt", "(I)C"⟩ : MethodName)) (z := (⟨"java/lang/String", "charAt", "(I)C"⟩ : MethodName)) hown4 (wq hw 197 rfl) (wq hw 198 rfl) (nf_sel (args := #[]) (mvT hZ4 (wq hw 75 rfl)) rfl) (wq hw 200 rfl) (wq hw 199 rfl) (by decide) (kc := 0) (ks := 0) (Con.sb (W := 0) (rm_chAt l hD r4 (6 + sg + d + 10 + 1) tq4 kq4 (qs sg A d ct) x1 O1 Eq4 Fc4 Fv4 V4 hql (qs_tp (j := 1) (by rw [hct]; exact tk_at rfl (by omega))) hx1) hZ4 (wq hw 201 rfl) (wq hw 3 rfl) (by decide) (by decide)) e28 Eq4 (g := (mkF m 525 #[vi p0, vi p1, vi p2, vi p3, vi p4, vi x0, vi x1, vi x2, vi (Int32.ofNat tn), vr ca, vr tp, vr r4, vj (p0.toInt64), .second, vi (Int32.ofNat sg), vj (Int64.ofNat A), .second, vi (Int32.ofNat d), vi (Int32.ofNat sg), vi (Int32.ofNat (6 + sg + d)), vi (Int32.ofNat (6 + sg)), vi 1, vi (Int32.ofNat (6 + sg + d + 10))] [(.int (Int32.ofNat (6 + sg + d + 10 + 1))), (.ref r4)])) rfl (by rw [hml]; rfl) (argsL := [(.int (Int32.ofNat (6 + sg + d + 10 + 1)))]) (rest := []) (lenOf pd_26 rfl) rfl (by show 2 * 0 + _ ≤ _; exact Nat.le_of_eq rfl) (hb hby at_525) (by decide) (by decide)
      obtain ⟨rfl, Nq29, Hq29⟩ := hQ29
      refine OEndsH.st st29 ?_
      replace N16 := Fr.app N16 Nq29
      replace e29 := e29.trans Hq29
      refine OEndsH.st (S' := T29.setTop (mkF m 538 #[vi p0, vi p1, vi p2, vi p3, vi p4, vi x0, vi x1, vi x2, vi (Int32.ofNat tn), vr ca, vr tp, vr r4, vj (p0.toInt64), .second, vi (Int32.ofNat sg), vj (Int64.ofNat A), .second, vi (Int32.ofNat d), vi (Int32.ofNat sg), vi (Int32.ofNat (6 + sg + d)), vi (Int32.ofNat (6 + sg)), vi 1, vi (Int32.ofNat (6 + sg + d + 10))] [(.int 3), (.int (Int32.ofNat tn))])) (fun _ k => ?_) ?_
      · refine XS.iload X29.here hx rfl (hb hby at_528) rfl ?_
        refine XS.icmpYes X29.here hx rfl (pc0 := 530) (pc' := 535) rfl (hb hby at_530) rfl (teq rfl).1 (by decide) (by decide) ?_
        refine XS.iload X29.here hx rfl (hb hby at_535) rfl ?_
        refine XS.iconst X29.here hx rfl (hb hby at_537) ?_
        exact k
      rcases Classical.em ((Int32.ofNat tn) < (3 : Int32)) with t3 | t3
      · refine OEndsH.st (S' := T29.setTop (mkF m 558 #[vi p0, vi p1, vi p2, vi p3, vi p4, vi x0, vi x1, vi x2, vi (Int32.ofNat tn), vr ca, vr tp, vr r4, vj (p0.toInt64), .second, vi (Int32.ofNat sg), vj (Int64.ofNat A), .second, vi (Int32.ofNat d), vi (Int32.ofNat sg), vi (Int32.ofNat (6 + sg + d)), vi (Int32.ofNat (6 + sg)), vi 1, vi (Int32.ofNat (6 + sg + d + 10))] [(.int 1)])) (fun _ k => ?_) ?_
        · refine XS.icmpYes X29.here hx rfl (pc0 := 538) (pc' := 557) rfl (hb hby at_538) rfl (tlt t3).1 (by decide) (by decide) ?_
          refine XS.iconst X29.here hx rfl (hb hby at_557) ?_
          exact k
        exact OEndsH.ret X29 hx hZ4 hEL e29 hS4 hk4 A1 hret hlk (by decide) (Or.inl ⟨rfl, by simp, _, rfl⟩) (hb hby at_558) (by decide) (by decide) ⟨rfl, N16⟩
      · have u3 : 3 ≤ tn := nlt_of (k := 3) htn (by decide) t3
        refine OEndsH.st (S' := T29.setTop (mkF m 547 #[vi p0, vi p1, vi p2, vi p3, vi p4, vi x0, vi x1, vi x2, vi (Int32.ofNat tn), vr ca, vr tp, vr r4, vj (p0.toInt64), .second, vi (Int32.ofNat sg), vj (Int64.ofNat A), .second, vi (Int32.ofNat d), vi (Int32.ofNat sg), vi (Int32.ofNat (6 + sg + d)), vi (Int32.ofNat (6 + sg)), vi 1, vi (Int32.ofNat (6 + sg + d + 10))] [(.int ((Int32.ofNat (6 + sg + d + 10)) + (2 : Int32))), (.ref r4)])) (fun _ k => ?_) ?_
        · refine XS.icmpNo X29.here hx rfl (hb hby at_538) rfl (flt t3).1 ?_
          refine XS.aload X29.here hx rfl (hb hby at_541) rfl rfl ?_
          refine XS.iload X29.here hx rfl (hb hby at_543) rfl ?_
          refine XS.iconst X29.here hx rfl (hb hby at_545) ?_
          show Steps p.tables e below (T29.setTop (mkF m 546 #[vi p0, vi p1, vi p2, vi p3, vi p4, vi x0, vi x1, vi x2, vi (Int32.ofNat tn), vr ca, vr tp, vr r4, vj (p0.toInt64), .second, vi (Int32.ofNat sg), vj (Int64.ofNat A), .second, vi (Int32.ofNat d), vi (Int32.ofNat sg), vi (Int32.ofNat (6 + sg + d)), vi (Int32.ofNat (6 + sg)), vi 1, vi (Int32.ofNat (6 + sg + d + 10))] [(.int 2), (.int (Int32.ofNat (6 + sg + d + 10))), (.ref r4)])) _
          refine XS.iadd X29.here hx rfl (hb hby at_546) rfl ?_
          exact k
        rw [show Int32.ofNat (6 + sg + d + 10) + (2 : Int32) = Int32.ofNat (6 + sg + d + 10 + 2) from ofn_add (6 + sg + d + 10) 2]
        obtain ⟨_, T30, h30, L30, X30, e30, hQ30, st30⟩ := virtC X29 hx hZ4 (y := (⟨"java/lang/String", "charAt", "(I)C"⟩ : MethodName)) (z := (⟨"java/lang/String", "charAt", "(I)C"⟩ : MethodName)) hown4 (wq hw 197 rfl) (wq hw 198 rfl) (nf_sel (args := #[]) (mvT hZ4 (wq hw 75 rfl)) rfl) (wq hw 200 rfl) (wq hw 199 rfl) (by decide) (kc := 0) (ks := 0) (Con.sb (W := 0) (rm_chAt l hD r4 (6 + sg + d + 10 + 2) tq4 kq4 (qs sg A d ct) x2 O1 Eq4 Fc4 Fv4 V4 hql (qs_tp (j := 2) (by rw [hct]; exact tk_at rfl (by omega))) hx2) hZ4 (wq hw 201 rfl) (wq hw 3 rfl) (by decide) (by decide)) e29 Eq4 (g := (mkF m 547 #[vi p0, vi p1, vi p2, vi p3, vi p4, vi x0, vi x1, vi x2, vi (Int32.ofNat tn), vr ca, vr tp, vr r4, vj (p0.toInt64), .second, vi (Int32.ofNat sg), vj (Int64.ofNat A), .second, vi (Int32.ofNat d), vi (Int32.ofNat sg), vi (Int32.ofNat (6 + sg + d)), vi (Int32.ofNat (6 + sg)), vi 1, vi (Int32.ofNat (6 + sg + d + 10))] [(.int (Int32.ofNat (6 + sg + d + 10 + 2))), (.ref r4)])) rfl (by rw [hml]; rfl) (argsL := [(.int (Int32.ofNat (6 + sg + d + 10 + 2)))]) (rest := []) (lenOf pd_26 rfl) rfl (by show 2 * 0 + _ ≤ _; exact Nat.le_of_eq rfl) (hb hby at_547) (by decide) (by decide)
        obtain ⟨rfl, Nq30, Hq30⟩ := hQ30
        refine OEndsH.st st30 ?_
        replace N16 := Fr.app N16 Nq30
        replace e30 := e30.trans Hq30
        refine OEndsH.st (S' := T30.setTop (mkF m 558 #[vi p0, vi p1, vi p2, vi p3, vi p4, vi x0, vi x1, vi x2, vi (Int32.ofNat tn), vr ca, vr tp, vr r4, vj (p0.toInt64), .second, vi (Int32.ofNat sg), vj (Int64.ofNat A), .second, vi (Int32.ofNat d), vi (Int32.ofNat sg), vi (Int32.ofNat (6 + sg + d)), vi (Int32.ofNat (6 + sg)), vi 1, vi (Int32.ofNat (6 + sg + d + 10))] [(.int 1)])) (fun _ k => ?_) ?_
        · refine XS.iload X30.here hx rfl (hb hby at_550) rfl ?_
          refine XS.icmpYes X30.here hx rfl (pc0 := 552) (pc' := 557) rfl (hb hby at_552) rfl (teq rfl).1 (by decide) (by decide) ?_
          refine XS.iconst X30.here hx rfl (hb hby at_557) ?_
          exact k
        exact OEndsH.ret X30 hx hZ4 hEL e30 hS4 hk4 A1 hret hlk (by decide) (Or.inl ⟨rfl, by simp, _, rfl⟩) (hb hby at_558) (by decide) (by decide) ⟨rfl, N16⟩
theorem consts_in : ∀ q ∈ EL, q ∈ consts_1 := by decide
set_option maxRecDepth 65536 in
set_option maxHeartbeats 40000000 in
theorem comes_1 {Post : Tables → Env → Array Value → State → Outcome → State → Prop} (hpost : ∀ tb e args s v u, (limb_1_1.after args s (.returned v) u = true ∧ limb_1_2.after args s (.returned v) u = true ∧ True) → Jvm.D.FramedW s (.returned v) u (Jvm.fieldLocs frame_1_writes args s ++ Jvm.arrayLocs frame_1_arrays args s ++ Jvm.staticLocs frame_1_statics s) 56 3584 → Post tb e args s (.returned v) u) :
    ArmFor flags0 classFile x code maxLocals ret World_1 tables_1 room_1 Calls_1 rest_1 Pre_1 Post := by
  intro l hfl _ _ p e ha hc hk s m args below hf hA hF happ hP
  obtain ⟨hcalls, hrest, hpre⟩ := hP
  obtain ⟨-, -, -, hnamed, -, -, -, hat⟩ := (Spec.applies_iff hf).mp happ
  obtain ⟨hg, hn⟩ := and_e (Cond.before_iff.mp (show (Jvm.Cond.and given_1 narrow_1).before args s = true from hpre))
  obtain ⟨g0, g1⟩ := and_e hg
  obtain ⟨ga0, g2⟩ := and_e g1
  obtain ⟨ga1, g3⟩ := and_e g2
  obtain ⟨ga2, g4⟩ := and_e g3
  obtain ⟨ga3, g5⟩ := and_e g4
  obtain ⟨w0, w1, w2, w3, w4, rfl⟩ : ∃ w0 w1 w2 w3 w4 : Value, args = #[w0, w1, w2, w3, w4] := by
    have hs : args.size = 5 := by simpa [Cond.value, given_1] using g0
    obtain ⟨L⟩ := args
    match L, hs with
    | [w0, w1, w2, w3, w4], _ => exact ⟨w0, w1, w2, w3, w4, rfl⟩
  have hw := fun d (hd : d ∈ tables_1) => atoms_spec (ws := Jvm.Cond.code x code maxLocals ret :: tables_1) hat d (List.mem_cons_of_mem _ hd)
  have hfit : Fit s := fun {y c} hc i hi => by
    obtain ⟨ha, rfl⟩ := Array.getElem?_eq_some_iff.mp hc
    have q := List.all_eq_true.mp ((Array.all_eq_true_iff_forall_mem.mp hF) _ (Array.getElem_mem ha)) i (List.mem_range.mpr hi)
    simpa [Array.getElem?_eq_getElem hi] using q
  obtain ⟨hsets, hown0⟩ := atoms_of _ (rest_1_c_eq ▸ (show rest_1_c.before _ s = true from hrest))
  obtain ⟨i0, ei0⟩ := is_v ga0
  obtain rfl : w0 = (.int i0) := Option.some.inj ei0
  obtain ⟨i1, ei1⟩ := is_v ga1
  obtain rfl : w1 = (.int i1) := Option.some.inj ei1
  obtain ⟨i2, ei2⟩ := is_v ga2
  obtain rfl : w2 = (.int i2) := Option.some.inj ei2
  obtain ⟨i3, ei3⟩ := is_v ga3
  obtain rfl : w3 = (.int i3) := Option.some.inj ei3
  obtain ⟨i4, ei4⟩ := is_v g5
  obtain rfl : w4 = (.int i4) := Option.some.inj ei4
  obtain ⟨cz, ecz⟩ := is_v (Cond.before_iff.mp (hsets _ (List.mem_of_getElem? (i := 1) rfl)))
  have S_CS : Sta s s.heap "java/lang/String" "COMPACT_STRINGS" "Z" (.int cz) := Sta.start ecz (Or.inl (hsets _ (List.mem_of_getElem? (i := 0) rfl)))
  have hcz : ¬ (cz = (0 : Int32)) := gotF (Cond.eq_ints ecz (Term.int_eval (0))) (not_v (Cond.before_iff.mp (hsets _ (List.mem_of_getElem? (i := 2) rfl))))
  obtain ⟨sf, S_SF, hsf⟩ : ∃ w : Value, Sta s s.heap "jdk/internal/util/Preconditions" "SIOOBE_FORMATTER" "Ljava/util/function/BiFunction;" w ∧ w.isRef = true := by
    obtain ⟨w, ew, hw'⟩ := isR_v (Cond.before_iff.mp (hsets _ (List.mem_of_getElem? (i := 8) rfl)))
    exact ⟨w, Sta.start ew (Or.inl (hsets _ (List.mem_of_getElem? (i := 7) rfl))), hw'⟩
  obtain ⟨d1, ev0⟩ := exa_v (Cond.before_iff.mp (hsets _ (List.mem_of_getElem? (i := 12) rfl)))
  have S_D1 : Sta s s.heap "java/lang/Integer" "DigitOnes" "[B" (.ref d1) := Sta.start ev0 (Or.inl (hsets _ (List.mem_of_getElem? (i := 11) rfl)))
  obtain ⟨kd1, V_D1⟩ := digO_arv (fun idx => (show Term.eval _ _ _ idx _ _ = Term.eval _ _ _ [] _ _ by simp only [Term.eval]).trans ev0) (hsets _ (List.mem_of_getElem? (i := 12) rfl)) (wq (a0 := _) hw 15 rfl) (hsets _ (List.mem_of_getElem? (i := 13) rfl)) (hsets _ (List.mem_of_getElem? (i := 14) rfl))
  obtain ⟨d2, ev1⟩ := exa_v (Cond.before_iff.mp (hsets _ (List.mem_of_getElem? (i := 17) rfl)))
  have S_D2 : Sta s s.heap "java/lang/Integer" "DigitTens" "[B" (.ref d2) := Sta.start ev1 (Or.inl (hsets _ (List.mem_of_getElem? (i := 16) rfl)))
  obtain ⟨kd2, V_D2⟩ := digT_arv (fun idx => (show Term.eval _ _ _ idx _ _ = Term.eval _ _ _ [] _ _ by simp only [Term.eval]).trans ev1) (hsets _ (List.mem_of_getElem? (i := 17) rfl)) (wq (a0 := _) hw 15 rfl) (hsets _ (List.mem_of_getElem? (i := 18) rfl)) (hsets _ (List.mem_of_getElem? (i := 19) rfl))
  have hD : Wd s _ := ⟨hw, ⟨cz, S_CS, hcz⟩, ⟨sf, S_SF, hsf⟩, ⟨d1, d2, kd1, kd2, S_D1, S_D2, V_D1, V_D2⟩⟩
  have hC : CHv s EL s.vm s.heap := CHv.start (el_of hw) (fun q hq => hcalls.1 q (consts_in q hq)) (hsets _ (List.mem_of_getElem? (i := 2) rfl)) (wq hw 15 rfl) (wq hw 2 rfl)
  obtain ⟨n, o, h1, h2, h3, _, L, rfl, ⟨rfl, N⟩, -, hq⟩ := rm_law l hD i0 i1 i2 i3 i4 (ext_refl s.heap) p e ha hc hk s m _ below hf ((Spec.applies_iff_loose hf).mp happ).1 ⟨rfl, State.Warmed39.refl s, rfl, hC, fun x hx => nomatch hx⟩ trivial
  refine ⟨n, _, h1, h2, h3, hpost _ _ _ _ _ _ ⟨Cond.after_iff.mpr rfl, Cond.after_iff.mpr (eq_i res_at (Term.int_eval (1)) rfl), trivial⟩ ⟨hq.1, hq.2.1, hq.2.2.1, (hq.2.2.2.sift fun y hy => Or.inr (N y hy)).mono (by decide) (by decide)⟩⟩
theorem main_1_1 : Claimed_1_1 := comes_1 fun _ _ _ _ _ _ h hF => ⟨h.1, hF⟩
theorem main_1_2 : Claimed_1_2 := comes_1 fun _ _ _ _ _ _ h hF => ⟨h.2.1, hF⟩
end Jvm.Pilot.@@N@@
namespace Jvm.Pilot.@@N@@
open Jvm Jvm.ClassFile Sem Op Lib Jvm.Free Jvm.Stand Jvm.Pilot.@@N@@.Jvm.D
/-! MADE BY PROGRAM (witnessworld.py) out of the Statement's table words and the real class files: 31 classes; the members and pool entries that the words name. The judged class is class 1, her method 5. -/
namespace start1
open Jvm.ClassFile
def u (s : String) : CpInfo := .utf8 (stringToUtf16 s)
/-- a pool by its gaps: so many unusable entries, then the entry; so many at the end -/
def gap : Nat → List CpInfo → List CpInfo
  | 0, r => r
  | n + 1, r => .unusable :: gap n r
def poolList (es : List (Nat × CpInfo)) (last : Nat) : List CpInfo := es.foldr (fun e r => gap e.1 (e.2 :: r)) (gap last [])
def pool (es : List (Nat × CpInfo)) (last : Nat) : Array CpInfo := ⟨poolList es last⟩
def fileOf (pool : Array CpInfo) (this : Nat) (attrs : Array Attribute := #[]) (ms : Array MethodInfo := #[]) (fl : Nat := 33) (sup : Nat := 0) (ifs : Array Nat := #[]) (fds : Array FieldInfo := #[]) : ClassFile where
  minorVersion := 0
  majorVersion := 65
  constantPool := pool
  accessFlags := fl
  thisClass := this
  superClass := sup
  interfaces := ifs
  fields := fds
  methods := ms
  attributes := attrs
def plain (name : String) (sup : Option ClassId) : Class where
  name := name
  kind := .ordinary
  loader := none
  accessFlags := 33
  super := sup
  interfaces := #[]
  cf := none
  fields := #[]
  methods := #[]
  instanceTypes := #[]
  staticTypes := #[]
  resolved := #[]
  callSites := []
  init := .initialized
  statics := none
  mirror := none

def pool0 : Array CpInfo := pool [(5, u "<init>"), (0, u "()V"), (1, .class_ 10), (1, u "java/lang/Object")] 113

def k0c0 : Code := { maxStack := 0, maxLocals := 1, code := object_method_1_code, exceptionTable := #[], attributes := #[] }
def k0m0 : Method := { name := "<init>", desc := "()V", sig := { parameters := [], returnType := none }, accessFlags := 1, code := some k0c0 }
/-- java/lang/Object -/
def k0 : Class := { plain "java/lang/Object" none with
  accessFlags := 33
  interfaces := #[]
  cf := some (fileOf pool0 8 #[] #[{ accessFlags := 1, nameIndex := 5, descriptorIndex := 6, attributes := #[] }] 33 0 #[] #[])
  fields := #[]
  methods := #[k0m0]
  instanceTypes := #[]
  staticTypes := #[]
  resolved := Array.replicate 124 none
  statics := none }

def pool1 : Array CpInfo := pool [(2, .class_ 4), (1, u "java/lang/Object"), (0, u "<init>"), (0, u "()V"), (0, .long 10), (1, .long 100), (1, .long 1000), (1, .long 10000), (1, .long 100000), (1, .long 1000000), (1, .long 10000000), (1, .long 100000000), (1, .long 1000000000), (1, .methodref 26 27), (0, .class_ 28), (0, .nameAndType 29 30), (0, u "com/example/wire_to_worker/wiretoworker/broker/QueueNameToStringPinLaw"), (0, u "pow10"), (0, u "(I)J"), (0, .methodref 32 33), (0, .class_ 34), (0, .nameAndType 35 36), (0, u "java/lang/String"), (0, u "charAt"), (0, u "(I)C"), (0, .methodref 32 38), (0, .nameAndType 5 39), (0, u "([C)V"), (0, .class_ 41), (0, u "com/example/wire_to_worker/wiretoworker/broker/QueueName"), (0, .methodref 40 43), (0, .nameAndType 5 44), (0, u "(Ljava/lang/String;I)V"), (0, .methodref 40 46), (0, .nameAndType 47 48), (0, u "toString"), (0, u "()Ljava/lang/String;"), (0, .methodref 26 50), (0, .nameAndType 51 52), (0, u "digits"), (0, u "(J)I"), (0, .methodref 32 54), (0, .nameAndType 55 56), (0, u "length"), (0, u "()I"), (0, .methodref 26 58), (0, .nameAndType 59 60), (0, u "digitOk"), (0, u "(Ljava/lang/String;IIJI)Z"), (0, .methodref 26 62), (0, .nameAndType 63 64), (0, u "ofTopic"), (0, u "(Ljava/lang/String;I)Z"), (3, u "law"), (0, u "(IIIII)Z")] 4

def k1m0 : Method := { name := "<init>", desc := "()V", sig := { parameters := [], returnType := none }, accessFlags := 1, code := none }
def k1c1 : Code := { maxStack := 5, maxLocals := 2, code := method_2_code, exceptionTable := #[], attributes := #[] }
def k1m1 : Method := { name := "pow10", desc := "(I)J", sig := { parameters := [.int], returnType := some .long }, accessFlags := 10, code := some k1c1 }
def k1c2 : Code := { maxStack := 4, maxLocals := 2, code := method_3_code, exceptionTable := #[], attributes := #[] }
def k1m2 : Method := { name := "digits", desc := "(J)I", sig := { parameters := [.long], returnType := some .int }, accessFlags := 10, code := some k1c2 }
def k1c3 : Code := { maxStack := 4, maxLocals := 8, code := method_4_code, exceptionTable := #[], attributes := #[] }
def k1m3 : Method := { name := "digitOk", desc := "(Ljava/lang/String;IIJI)Z", sig := { parameters := [(.object "java/lang/String"), .int, .int, .long, .int], returnType := some .boolean }, accessFlags := 10, code := some k1c3 }
def k1c4 : Code := { maxStack := 3, maxLocals := 2, code := method_5_code, exceptionTable := #[], attributes := #[] }
def k1m4 : Method := { name := "ofTopic", desc := "(Ljava/lang/String;I)Z", sig := { parameters := [(.object "java/lang/String"), .int], returnType := some .boolean }, accessFlags := 10, code := some k1c4 }
def k1c5 : Code := { maxStack := 6, maxLocals := 23, code := code, exceptionTable := #[], attributes := #[] }
def k1m5 : Method := { name := "law", desc := "(IIIII)Z", sig := { parameters := [.int, .int, .int, .int, .int], returnType := some .boolean }, accessFlags := 9, code := some k1c5 }
/-- com/example/wire_to_worker/wiretoworker/broker/QueueNameToStringPinLaw -/
def k1 : Class := { plain "com/example/wire_to_worker/wiretoworker/broker/QueueNameToStringPinLaw" (some 0) with
  accessFlags := 49
  interfaces := #[]
  cf := some (fileOf pool1 26 #[] #[{ accessFlags := 1, nameIndex := 5, descriptorIndex := 6, attributes := #[] }, { accessFlags := 10, nameIndex := 29, descriptorIndex := 30, attributes := #[] }, { accessFlags := 10, nameIndex := 51, descriptorIndex := 52, attributes := #[] }, { accessFlags := 10, nameIndex := 59, descriptorIndex := 60, attributes := #[] }, { accessFlags := 10, nameIndex := 63, descriptorIndex := 64, attributes := #[] }, { accessFlags := 9, nameIndex := 68, descriptorIndex := 69, attributes := #[] }] 49 2 #[] #[])
  fields := #[]
  methods := #[k1m0, k1m1, k1m2, k1m3, k1m4, k1m5]
  instanceTypes := #[]
  staticTypes := #[]
  resolved := Array.replicate 74 none
  statics := none }

def pool2 : Array CpInfo := pool [(1, .class_ 2), (0, u "java/io/Serializable"), (0, .class_ 4), (0, u "java/lang/Object")] 2

/-- java/io/Serializable -/
def k2 : Class := { plain "java/io/Serializable" (some 0) with
  accessFlags := 1537
  interfaces := #[]
  cf := some (fileOf pool2 1 #[] #[] 1537 3 #[] #[])
  fields := #[]
  methods := #[]
  instanceTypes := #[]
  staticTypes := #[]
  resolved := Array.replicate 7 none
  statics := none }

def pool3 : Array CpInfo := pool [(1, .class_ 2), (0, u "java/lang/Comparable"), (0, .class_ 4), (0, u "java/lang/Object")] 7

/-- java/lang/Comparable -/
def k3 : Class := { plain "java/lang/Comparable" (some 0) with
  accessFlags := 1537
  interfaces := #[]
  cf := some (fileOf pool3 1 #[] #[] 1537 3 #[] #[])
  fields := #[]
  methods := #[]
  instanceTypes := #[]
  staticTypes := #[]
  resolved := Array.replicate 12 none
  statics := none }

def pool4 : Array CpInfo := pool [(2, .class_ 4), (1, u "java/lang/CharSequence"), (42, .class_ 48), (0, u "java/lang/CharSequence$1CodePointIterator"), (10, .class_ 60), (0, u "java/lang/CharSequence$1CharIterator"), (5, .class_ 67), (0, u "java/lang/Object")] 63

/-- java/lang/CharSequence -/
def k4 : Class := { plain "java/lang/CharSequence" (some 0) with
  accessFlags := 1537
  interfaces := #[]
  cf := some (fileOf pool4 2 #[.nestMembers #[47, 59]] #[] 1537 66 #[] #[])
  fields := #[]
  methods := #[]
  instanceTypes := #[]
  staticTypes := #[]
  resolved := Array.replicate 131 none
  statics := none }

def pool5 : Array CpInfo := pool [(1, .class_ 2), (0, u "java/lang/constant/Constable"), (0, .class_ 4), (0, u "java/lang/Object")] 6

/-- java/lang/constant/Constable -/
def k5 : Class := { plain "java/lang/constant/Constable" (some 0) with
  accessFlags := 1537
  interfaces := #[]
  cf := some (fileOf pool5 1 #[] #[] 1537 3 #[] #[])
  fields := #[]
  methods := #[]
  instanceTypes := #[]
  staticTypes := #[]
  resolved := Array.replicate 11 none
  statics := none }

def pool6 : Array CpInfo := pool [(1, .class_ 2), (0, u "java/lang/constant/ConstantDesc"), (0, .class_ 4), (0, u "java/lang/Object")] 32

/-- java/lang/constant/ConstantDesc -/
def k6 : Class := { plain "java/lang/constant/ConstantDesc" (some 0) with
  accessFlags := 1537
  interfaces := #[]
  cf := some (fileOf pool6 1 #[] #[] 1537 3 #[] #[])
  fields := #[]
  methods := #[]
  instanceTypes := #[]
  staticTypes := #[]
  resolved := Array.replicate 37 none
  statics := none }

def pool7 : Array CpInfo := pool [(1, .methodref 2 3), (0, .class_ 4), (0, .nameAndType 5 6), (0, u "java/lang/Object"), (0, u "<init>"), (0, u "()V"), (0, .string 8), (0, u ""), (0, .fieldref 10 11), (0, .class_ 12), (0, .nameAndType 13 14), (0, u "java/lang/String"), (0, u "value"), (0, u "[B"), (0, .fieldref 10 16), (0, .nameAndType 17 18), (0, u "coder"), (0, u "B"), (2, u "hash"), (0, u "I"), (2, u "hashIsZero"), (0, u "Z"), (0, .methodref 10 28), (0, .nameAndType 5 29), (0, u "([CIILjava/lang/Void;)V"), (8, .fieldref 10 39), (0, .nameAndType 40 26), (0, u "COMPACT_STRINGS"), (1, .class_ 44), (1, u "java/lang/StringUTF16"), (0, u "compress"), (1, .methodref 42 48), (0, .nameAndType 49 50), (0, u "coderFromArrayLen"), (0, u "([BI)B"), (3, .methodref 55 56), (0, .class_ 57), (0, .nameAndType 58 59), (0, u "java/util/Arrays"), (0, u "copyOfRange"), (0, u "([BII)[B"), (47, .class_ 109), (1, u "java/lang/StringLatin1"), (32, u "()Z"), (34, .methodref 42 178), (0, .nameAndType 45 179), (0, u "([CII)[B"), (13, .class_ 195), (1, u "java/lang/System"), (16, .methodref 193 213), (0, .nameAndType 214 215), (0, u "arraycopy"), (0, u "(Ljava/lang/Object;ILjava/lang/Object;II)V"), (118, u "()I"), (0, .methodref 10 336), (0, .nameAndType 17 337), (0, u "()B"), (2, u "()[B"), (22, u "([BI)C"), (27, u "(II)V"), (35, u "(I)C"), (61, .methodref 10 490), (0, .nameAndType 5 491), (0, u "(Ljava/lang/AbstractStringBuilder;Ljava/lang/Void;)V"), (0, .methodref 10 493), (0, .nameAndType 494 142), (0, u "isLatin1"), (0, .methodref 107 496), (0, .nameAndType 497 363), (0, u "charAt"), (3, u "checkIndex"), (4, .nameAndType 507 334), (0, u "length"), (24, u "getBytes"), (16, .methodref 550 506), (0, .class_ 551), (0, u "java/lang/AbstractStringBuilder"), (0, .methodref 550 553), (0, .nameAndType 554 340), (0, u "getValue"), (20, .class_ 576), (0, u "java/lang/CharSequence"), (22, u "CASE_INSENSITIVE_ORDER"), (0, u "Ljava/util/Comparator;"), (220, u "([BIB)V"), (188, u "([C)V"), (36, .methodref 550 493), (5, .fieldref 1054 1055), (0, .class_ 1056), (0, .nameAndType 1057 1058), (0, u "jdk/internal/util/Preconditions"), (0, u "SIOOBE_FORMATTER"), (0, u "Ljava/util/function/BiFunction;"), (0, .methodref 1054 1060), (0, .nameAndType 501 1061), (0, u "(IILjava/util/function/BiFunction;)I"), (39, u "serialPersistentFields"), (0, u "[Ljava/io/ObjectStreamField;"), (0, .class_ 1104), (0, u "java/lang/String$CaseInsensitiveComparator"), (1, .class_ 1107), (0, u "java/io/Serializable"), (0, .class_ 1109), (0, u "java/lang/Comparable"), (0, .class_ 1111), (0, u "java/lang/constant/Constable"), (0, .class_ 1113), (0, u "java/lang/constant/ConstantDesc"), (2, u "serialVersionUID"), (0, u "J"), (3, u "REPL"), (0, u "C"), (2, u "LATIN1"), (1, u "UTF16"), (105, u "(Ljava/lang/StringBuilder;)V")] 217

def k7m0 : Method := { name := "<init>", desc := "()V", sig := { parameters := [], returnType := none }, accessFlags := 1, code := none }
def k7c1 : Code := { maxStack := 5, maxLocals := 2, code := jdk_42_method_3_code, exceptionTable := #[], attributes := #[] }
def k7m1 : Method := { name := "<init>", desc := "([C)V", sig := { parameters := [(.array .char)], returnType := none }, accessFlags := 1, code := some k7c1 }
def k7c2 : Code := { maxStack := 3, maxLocals := 2, code := jdk_42_method_53_code, exceptionTable := #[], attributes := #[] }
def k7m2 : Method := { name := "<init>", desc := "(Ljava/lang/StringBuilder;)V", sig := { parameters := [(.object "java/lang/StringBuilder")], returnType := none }, accessFlags := 1, code := some k7c2 }
def k7c3 : Code := { maxStack := 2, maxLocals := 1, code := jdk_42_method_54_code, exceptionTable := #[], attributes := #[] }
def k7m3 : Method := { name := "length", desc := "()I", sig := { parameters := [], returnType := some .int }, accessFlags := 1, code := some k7c3 }
def k7c4 : Code := { maxStack := 2, maxLocals := 2, code := jdk_42_method_56_code, exceptionTable := #[], attributes := #[] }
def k7m4 : Method := { name := "charAt", desc := "(I)C", sig := { parameters := [.int], returnType := some .char }, accessFlags := 1, code := some k7c4 }
def k7c5 : Code := { maxStack := 5, maxLocals := 4, code := jdk_42_method_147_code, exceptionTable := #[], attributes := #[] }
def k7m5 : Method := { name := "getBytes", desc := "([BIB)V", sig := { parameters := [(.array .byte), .int, .byte], returnType := none }, accessFlags := 0, code := some k7c5 }
def k7c6 : Code := { maxStack := 4, maxLocals := 6, code := jdk_42_method_149_code, exceptionTable := #[], attributes := #[] }
def k7m6 : Method := { name := "<init>", desc := "([CIILjava/lang/Void;)V", sig := { parameters := [(.array .char), .int, .int, (.object "java/lang/Void")], returnType := none }, accessFlags := 2, code := some k7c6 }
def k7c7 : Code := { maxStack := 5, maxLocals := 5, code := jdk_42_method_150_code, exceptionTable := #[], attributes := #[] }
def k7m7 : Method := { name := "<init>", desc := "(Ljava/lang/AbstractStringBuilder;Ljava/lang/Void;)V", sig := { parameters := [(.object "java/lang/AbstractStringBuilder"), (.object "java/lang/Void")], returnType := none }, accessFlags := 0, code := some k7c7 }
def k7c8 : Code := { maxStack := 1, maxLocals := 1, code := jdk_42_method_152_code, exceptionTable := #[], attributes := #[] }
def k7m8 : Method := { name := "coder", desc := "()B", sig := { parameters := [], returnType := some .byte }, accessFlags := 0, code := some k7c8 }
def k7c9 : Code := { maxStack := 1, maxLocals := 1, code := jdk_42_method_154_code, exceptionTable := #[], attributes := #[] }
def k7m9 : Method := { name := "isLatin1", desc := "()Z", sig := { parameters := [], returnType := some .boolean }, accessFlags := 0, code := some k7c9 }
def k7c10 : Code := { maxStack := 3, maxLocals := 2, code := jdk_42_method_155_code, exceptionTable := #[], attributes := #[] }
def k7m10 : Method := { name := "checkIndex", desc := "(II)V", sig := { parameters := [.int, .int], returnType := none }, accessFlags := 8, code := some k7c10 }
/-- java/lang/String -/
def k7 : Class := { plain "java/lang/String" (some 0) with
  accessFlags := 49
  interfaces := #[2, 3, 4, 5, 6]
  cf := some (fileOf pool7 10 #[.nestMembers #[1103]] #[{ accessFlags := 1, nameIndex := 5, descriptorIndex := 6, attributes := #[] }, { accessFlags := 1, nameIndex := 5, descriptorIndex := 1010, attributes := #[] }, { accessFlags := 1, nameIndex := 5, descriptorIndex := 1233, attributes := #[] }, { accessFlags := 1, nameIndex := 507, descriptorIndex := 334, attributes := #[] }, { accessFlags := 1, nameIndex := 497, descriptorIndex := 427, attributes := #[] }, { accessFlags := 0, nameIndex := 532, descriptorIndex := 821, attributes := #[] }, { accessFlags := 2, nameIndex := 5, descriptorIndex := 29, attributes := #[] }, { accessFlags := 0, nameIndex := 5, descriptorIndex := 491, attributes := #[] }, { accessFlags := 0, nameIndex := 17, descriptorIndex := 337, attributes := #[] }, { accessFlags := 0, nameIndex := 494, descriptorIndex := 142, attributes := #[] }, { accessFlags := 8, nameIndex := 501, descriptorIndex := 391, attributes := #[] }] 49 2 #[1106, 1108, 575, 1110, 1112] #[{ accessFlags := 18, nameIndex := 13, descriptorIndex := 14, attributes := #[] }, { accessFlags := 18, nameIndex := 17, descriptorIndex := 18, attributes := #[] }, { accessFlags := 2, nameIndex := 21, descriptorIndex := 22, attributes := #[] }, { accessFlags := 2, nameIndex := 25, descriptorIndex := 26, attributes := #[] }, { accessFlags := 26, nameIndex := 1116, descriptorIndex := 1117, attributes := #[] }, { accessFlags := 24, nameIndex := 40, descriptorIndex := 26, attributes := #[] }, { accessFlags := 26, nameIndex := 1101, descriptorIndex := 1102, attributes := #[] }, { accessFlags := 26, nameIndex := 1121, descriptorIndex := 1122, attributes := #[] }, { accessFlags := 25, nameIndex := 599, descriptorIndex := 600, attributes := #[] }, { accessFlags := 24, nameIndex := 1125, descriptorIndex := 18, attributes := #[] }, { accessFlags := 24, nameIndex := 1127, descriptorIndex := 18, attributes := #[] }])
  fields := #[{ name := "value", type := (.array .byte), accessFlags := 18, slot := 0, constantValue := 0 }, { name := "coder", type := .byte, accessFlags := 18, slot := 1, constantValue := 0 }, { name := "hash", type := .int, accessFlags := 2, slot := 2, constantValue := 0 }, { name := "hashIsZero", type := .boolean, accessFlags := 2, slot := 3, constantValue := 0 }, { name := "serialVersionUID", type := .long, accessFlags := 26, slot := 0, constantValue := 0 }, { name := "COMPACT_STRINGS", type := .boolean, accessFlags := 24, slot := 1, constantValue := 0 }, { name := "serialPersistentFields", type := (.array (.object "java/io/ObjectStreamField")), accessFlags := 26, slot := 2, constantValue := 0 }, { name := "REPL", type := .char, accessFlags := 26, slot := 3, constantValue := 0 }, { name := "CASE_INSENSITIVE_ORDER", type := (.object "java/util/Comparator"), accessFlags := 25, slot := 4, constantValue := 0 }, { name := "LATIN1", type := .byte, accessFlags := 24, slot := 5, constantValue := 0 }, { name := "UTF16", type := .byte, accessFlags := 24, slot := 6, constantValue := 0 }]
  methods := #[k7m0, k7m1, k7m2, k7m3, k7m4, k7m5, k7m6, k7m7, k7m8, k7m9, k7m10]
  instanceTypes := #[(.array .byte), .byte, .int, .boolean]
  staticTypes := #[.long, .boolean, (.array (.object "java/io/ObjectStreamField")), .char, (.object "java/util/Comparator"), .byte, .byte]
  resolved := Array.replicate 1451 none
  statics := some 0 }

def pool8 : Array CpInfo := pool [(1, .methodref 2 3), (0, .class_ 4), (0, .nameAndType 5 6), (0, u "java/lang/Object"), (0, u "<init>"), (0, u "()V"), (0, .class_ 8), (0, u "java/lang/Record")] 13

def k8c0 : Code := { maxStack := 1, maxLocals := 1, code := jdk_30_method_1_code, exceptionTable := #[], attributes := #[] }
def k8m0 : Method := { name := "<init>", desc := "()V", sig := { parameters := [], returnType := none }, accessFlags := 4, code := some k8c0 }
/-- java/lang/Record -/
def k8 : Class := { plain "java/lang/Record" (some 0) with
  accessFlags := 1057
  interfaces := #[]
  cf := some (fileOf pool8 7 #[] #[{ accessFlags := 4, nameIndex := 5, descriptorIndex := 6, attributes := #[] }] 1057 2 #[] #[])
  fields := #[]
  methods := #[k8m0]
  instanceTypes := #[]
  staticTypes := #[]
  resolved := Array.replicate 22 none
  statics := none }

def pool9 : Array CpInfo := pool [(1, .methodref 2 3), (0, .class_ 4), (0, .nameAndType 5 6), (0, u "java/lang/Record"), (0, u "<init>"), (0, u "()V"), (0, .fieldref 8 9), (0, .class_ 10), (0, .nameAndType 11 12), (0, u "com/example/wire_to_worker/wiretoworker/broker/QueueName"), (0, u "topic"), (0, u "Ljava/lang/String;"), (0, .fieldref 8 14), (0, .nameAndType 15 16), (0, u "queueId"), (0, u "I"), (0, .class_ 18), (0, u "java/lang/StringBuilder"), (0, .methodref 17 3), (0, .string 21), (0, u "queue "), (0, .methodref 17 23), (0, .nameAndType 24 25), (0, u "append"), (0, u "(Ljava/lang/String;)Ljava/lang/StringBuilder;"), (0, .methodref 17 27), (0, .nameAndType 24 28), (0, u "(I)Ljava/lang/StringBuilder;"), (0, .string 30), (0, u " of topic "), (0, .methodref 17 32), (0, .nameAndType 33 34), (0, u "toString"), (0, u "()Ljava/lang/String;"), (8, u "(Ljava/lang/String;I)V")] 26

def k9c0 : Code := { maxStack := 2, maxLocals := 3, code := prog_5_method_1_code, exceptionTable := #[], attributes := #[] }
def k9m0 : Method := { name := "<init>", desc := "(Ljava/lang/String;I)V", sig := { parameters := [(.object "java/lang/String"), .int], returnType := none }, accessFlags := 0, code := some k9c0 }
def k9c1 : Code := { maxStack := 2, maxLocals := 1, code := prog_5_method_2_code, exceptionTable := #[], attributes := #[] }
def k9m1 : Method := { name := "toString", desc := "()Ljava/lang/String;", sig := { parameters := [], returnType := some (.object "java/lang/String") }, accessFlags := 1, code := some k9c1 }
/-- com/example/wire_to_worker/wiretoworker/broker/QueueName -/
def k9 : Class := { plain "com/example/wire_to_worker/wiretoworker/broker/QueueName" (some 8) with
  accessFlags := 48
  interfaces := #[]
  cf := some (fileOf pool9 8 #[] #[{ accessFlags := 0, nameIndex := 5, descriptorIndex := 43, attributes := #[] }, { accessFlags := 1, nameIndex := 33, descriptorIndex := 34, attributes := #[] }] 48 2 #[] #[{ accessFlags := 18, nameIndex := 11, descriptorIndex := 12, attributes := #[] }, { accessFlags := 18, nameIndex := 15, descriptorIndex := 16, attributes := #[] }])
  fields := #[{ name := "topic", type := (.object "java/lang/String"), accessFlags := 18, slot := 0, constantValue := 0 }, { name := "queueId", type := .int, accessFlags := 18, slot := 1, constantValue := 0 }]
  methods := #[k9m0, k9m1]
  instanceTypes := #[(.object "java/lang/String"), .int]
  staticTypes := #[]
  resolved := Array.replicate 70 none
  statics := none }

def pool10 : Array CpInfo := pool [(1, .class_ 2), (0, u "java/lang/Appendable"), (0, .class_ 4), (0, u "java/lang/Object")] 9

/-- java/lang/Appendable -/
def k10 : Class := { plain "java/lang/Appendable" (some 0) with
  accessFlags := 1537
  interfaces := #[]
  cf := some (fileOf pool10 1 #[] #[] 1537 3 #[] #[])
  fields := #[]
  methods := #[]
  instanceTypes := #[]
  staticTypes := #[]
  resolved := Array.replicate 14 none
  statics := none }

def pool11 : Array CpInfo := pool [(1, .class_ 2), (0, u "java/lang/String"), (0, .methodref 4 5), (0, .class_ 6), (0, .nameAndType 7 8), (0, u "java/lang/Object"), (0, u "<init>"), (0, u "()V"), (1, .class_ 12), (1, u "java/lang/AbstractStringBuilder"), (0, u "EMPTYVALUE"), (0, u "[B"), (0, .fieldref 10 16), (0, .nameAndType 17 14), (0, u "value"), (0, .fieldref 1 19), (0, .nameAndType 20 21), (0, u "COMPACT_STRINGS"), (0, u "Z"), (0, .fieldref 10 23), (0, .nameAndType 24 25), (0, u "coder"), (0, u "B"), (6, .methodref 1 33), (0, .nameAndType 34 35), (0, u "length"), (0, u "()I"), (0, .class_ 37), (0, u "java/lang/Integer"), (1, .integer 2147483647), (0, .methodref 1 41), (0, .nameAndType 24 42), (0, u "()B"), (2, u "append"), (0, u "(Ljava/lang/String;)Ljava/lang/AbstractStringBuilder;"), (1, .class_ 49), (0, u "java/lang/CharSequence"), (19, u "(Ljava/lang/String;)V"), (5, u "maybeLatin1"), (3, .fieldref 10 80), (0, .nameAndType 81 82), (0, u "count"), (0, u "I"), (0, .methodref 10 84), (0, .nameAndType 85 86), (0, u "isLatin1"), (0, u "()Z"), (13, .methodref 10 101), (0, .nameAndType 102 103), (0, u "ensureCapacityInternal"), (0, u "(I)V"), (0, .methodref 10 105), (0, .nameAndType 106 107), (0, u "newCapacity"), (0, u "(I)I"), (0, .methodref 109 110), (0, .class_ 111), (0, .nameAndType 112 113), (0, u "java/util/Arrays"), (0, u "copyOf"), (0, u "([BI)[B"), (0, .methodref 115 116), (0, .class_ 117), (0, .nameAndType 118 119), (0, u "jdk/internal/util/ArraysSupport"), (0, u "newLength"), (0, u "(III)I"), (68, u "getChars"), (19, .methodref 10 209), (0, .nameAndType 210 211), (0, u "putStringAt"), (0, u "(ILjava/lang/String;)V"), (5, u "inflateIfNeededFor"), (2, .nameAndType 221 222), (0, u "getBytes"), (0, u "([BIB)V"), (22, .methodref 36 246), (0, .nameAndType 247 107), (0, u "stringSize"), (0, .methodref 36 249), (0, .nameAndType 188 250), (0, u "(II[B)I"), (146, .methodref 10 398), (0, .nameAndType 217 69), (0, .methodref 1 220), (3, u "()[B"), (40, .class_ 445), (0, u "java/lang/Appendable"), (65, u "(I)Ljava/lang/AbstractStringBuilder;"), (40, u "getValue")] 56

def k11m0 : Method := { name := "<init>", desc := "()V", sig := { parameters := [], returnType := none }, accessFlags := 0, code := none }
def k11c1 : Code := { maxStack := 2, maxLocals := 2, code := jdk_68_method_2_code, exceptionTable := #[], attributes := #[] }
def k11m1 : Method := { name := "<init>", desc := "(I)V", sig := { parameters := [.int], returnType := none }, accessFlags := 0, code := some k11c1 }
def k11c2 : Code := { maxStack := 1, maxLocals := 1, code := jdk_68_method_6_code, exceptionTable := #[], attributes := #[] }
def k11m2 : Method := { name := "length", desc := "()I", sig := { parameters := [], returnType := some .int }, accessFlags := 1, code := some k11c2 }
def k11c3 : Code := { maxStack := 4, maxLocals := 3, code := jdk_68_method_9_code, exceptionTable := #[], attributes := #[] }
def k11m3 : Method := { name := "ensureCapacityInternal", desc := "(I)V", sig := { parameters := [.int], returnType := none }, accessFlags := 2, code := some k11c3 }
def k11c4 : Code := { maxStack := 5, maxLocals := 6, code := jdk_68_method_10_code, exceptionTable := #[], attributes := #[] }
def k11m4 : Method := { name := "newCapacity", desc := "(I)I", sig := { parameters := [.int], returnType := some .int }, accessFlags := 2, code := some k11c4 }
def k11c5 : Code := { maxStack := 3, maxLocals := 3, code := jdk_68_method_22_code, exceptionTable := #[], attributes := #[] }
def k11m5 : Method := { name := "append", desc := "(Ljava/lang/String;)Ljava/lang/AbstractStringBuilder;", sig := { parameters := [(.object "java/lang/String")], returnType := some (.object "java/lang/AbstractStringBuilder") }, accessFlags := 1, code := some k11c5 }
def k11c6 : Code := { maxStack := 4, maxLocals := 4, code := jdk_68_method_32_code, exceptionTable := #[], attributes := #[] }
def k11m6 : Method := { name := "append", desc := "(I)Ljava/lang/AbstractStringBuilder;", sig := { parameters := [.int], returnType := some (.object "java/lang/AbstractStringBuilder") }, accessFlags := 1, code := some k11c6 }
def k11c7 : Code := { maxStack := 1, maxLocals := 1, code := jdk_68_method_64_code, exceptionTable := #[], attributes := #[] }
def k11m7 : Method := { name := "getValue", desc := "()[B", sig := { parameters := [], returnType := some (.array .byte) }, accessFlags := 16, code := some k11c7 }
def k11c8 : Code := { maxStack := 1, maxLocals := 1, code := jdk_68_method_68_code, exceptionTable := #[], attributes := #[] }
def k11m8 : Method := { name := "isLatin1", desc := "()Z", sig := { parameters := [], returnType := some .boolean }, accessFlags := 16, code := some k11c8 }
def k11c9 : Code := { maxStack := 2, maxLocals := 2, code := jdk_68_method_71_code, exceptionTable := #[], attributes := #[] }
def k11m9 : Method := { name := "inflateIfNeededFor", desc := "(Ljava/lang/String;)V", sig := { parameters := [(.object "java/lang/String")], returnType := none }, accessFlags := 2, code := some k11c9 }
def k11c10 : Code := { maxStack := 4, maxLocals := 3, code := jdk_68_method_73_code, exceptionTable := #[], attributes := #[] }
def k11m10 : Method := { name := "putStringAt", desc := "(ILjava/lang/String;)V", sig := { parameters := [.int, (.object "java/lang/String")], returnType := none }, accessFlags := 2, code := some k11c10 }
/-- java/lang/AbstractStringBuilder -/
def k11 : Class := { plain "java/lang/AbstractStringBuilder" (some 0) with
  accessFlags := 1056
  interfaces := #[10, 4]
  cf := some (fileOf pool11 10 #[] #[{ accessFlags := 0, nameIndex := 7, descriptorIndex := 8, attributes := #[] }, { accessFlags := 0, nameIndex := 7, descriptorIndex := 103, attributes := #[] }, { accessFlags := 1, nameIndex := 34, descriptorIndex := 35, attributes := #[] }, { accessFlags := 2, nameIndex := 102, descriptorIndex := 103, attributes := #[] }, { accessFlags := 2, nameIndex := 106, descriptorIndex := 107, attributes := #[] }, { accessFlags := 1, nameIndex := 45, descriptorIndex := 46, attributes := #[] }, { accessFlags := 1, nameIndex := 45, descriptorIndex := 511, attributes := #[] }, { accessFlags := 16, nameIndex := 552, descriptorIndex := 403, attributes := #[] }, { accessFlags := 16, nameIndex := 85, descriptorIndex := 86, attributes := #[] }, { accessFlags := 2, nameIndex := 217, descriptorIndex := 69, attributes := #[] }, { accessFlags := 2, nameIndex := 210, descriptorIndex := 211, attributes := #[] }] 1056 4 #[444, 48] #[{ accessFlags := 0, nameIndex := 17, descriptorIndex := 14, attributes := #[] }, { accessFlags := 0, nameIndex := 24, descriptorIndex := 25, attributes := #[] }, { accessFlags := 0, nameIndex := 75, descriptorIndex := 21, attributes := #[] }, { accessFlags := 0, nameIndex := 81, descriptorIndex := 82, attributes := #[] }, { accessFlags := 26, nameIndex := 13, descriptorIndex := 14, attributes := #[] }])
  fields := #[{ name := "value", type := (.array .byte), accessFlags := 0, slot := 0, constantValue := 0 }, { name := "coder", type := .byte, accessFlags := 0, slot := 1, constantValue := 0 }, { name := "maybeLatin1", type := .boolean, accessFlags := 0, slot := 2, constantValue := 0 }, { name := "count", type := .int, accessFlags := 0, slot := 3, constantValue := 0 }, { name := "EMPTYVALUE", type := (.array .byte), accessFlags := 26, slot := 0, constantValue := 0 }]
  methods := #[k11m0, k11m1, k11m2, k11m3, k11m4, k11m5, k11m6, k11m7, k11m8, k11m9, k11m10]
  instanceTypes := #[(.array .byte), .byte, .boolean, .int]
  staticTypes := #[(.array .byte)]
  resolved := Array.replicate 609 none
  statics := none }

def pool12 : Array CpInfo := pool [(1, .methodref 2 3), (0, .class_ 4), (0, .nameAndType 5 6), (0, u "java/lang/AbstractStringBuilder"), (0, u "<init>"), (0, u "(I)V"), (11, .class_ 20), (1, u "java/lang/String"), (3, .class_ 26), (1, u "java/lang/StringBuilder"), (0, u "append"), (0, u "(Ljava/lang/String;)Ljava/lang/StringBuilder;"), (0, .methodref 2 30), (0, .nameAndType 27 31), (0, u "(Ljava/lang/String;)Ljava/lang/AbstractStringBuilder;"), (21, .methodref 2 54), (0, .nameAndType 27 55), (0, u "(I)Ljava/lang/AbstractStringBuilder;"), (81, .methodref 18 138), (0, .nameAndType 5 139), (0, u "(Ljava/lang/StringBuilder;)V"), (5, u "()V"), (10, u "()I"), (111, u "(I)Ljava/lang/StringBuilder;"), (74, .methodref 2 344), (0, .nameAndType 345 156), (0, u "length"), (3, .class_ 350), (0, u "java/lang/Appendable"), (0, .class_ 352), (0, u "java/io/Serializable"), (0, .class_ 354), (0, u "java/lang/Comparable"), (0, .class_ 356), (0, u "java/lang/CharSequence"), (0, u "serialVersionUID"), (0, u "J"), (40, u "toString"), (0, u "()Ljava/lang/String;")] 21

def k12c0 : Code := { maxStack := 2, maxLocals := 1, code := jdk_67_method_1_code, exceptionTable := #[], attributes := #[] }
def k12m0 : Method := { name := "<init>", desc := "()V", sig := { parameters := [], returnType := none }, accessFlags := 1, code := some k12c0 }
def k12c1 : Code := { maxStack := 2, maxLocals := 2, code := jdk_67_method_7_code, exceptionTable := #[], attributes := #[] }
def k12m1 : Method := { name := "append", desc := "(Ljava/lang/String;)Ljava/lang/StringBuilder;", sig := { parameters := [(.object "java/lang/String")], returnType := some (.object "java/lang/StringBuilder") }, accessFlags := 1, code := some k12c1 }
def k12c2 : Code := { maxStack := 2, maxLocals := 2, code := jdk_67_method_15_code, exceptionTable := #[], attributes := #[] }
def k12m2 : Method := { name := "append", desc := "(I)Ljava/lang/StringBuilder;", sig := { parameters := [.int], returnType := some (.object "java/lang/StringBuilder") }, accessFlags := 1, code := some k12c2 }
def k12c3 : Code := { maxStack := 3, maxLocals := 1, code := jdk_67_method_42_code, exceptionTable := #[], attributes := #[] }
def k12m3 : Method := { name := "toString", desc := "()Ljava/lang/String;", sig := { parameters := [], returnType := some (.object "java/lang/String") }, accessFlags := 1, code := some k12c3 }
def k12c4 : Code := { maxStack := 1, maxLocals := 1, code := jdk_67_method_93_code, exceptionTable := #[], attributes := #[] }
def k12m4 : Method := { name := "length", desc := "()I", sig := { parameters := [], returnType := some .int }, accessFlags := 4161, code := some k12c4 }
/-- java/lang/StringBuilder -/
def k12 : Class := { plain "java/lang/StringBuilder" (some 11) with
  accessFlags := 49
  interfaces := #[10, 2, 3, 4]
  cf := some (fileOf pool12 24 #[] #[{ accessFlags := 1, nameIndex := 5, descriptorIndex := 145, attributes := #[] }, { accessFlags := 1, nameIndex := 27, descriptorIndex := 28, attributes := #[] }, { accessFlags := 1, nameIndex := 27, descriptorIndex := 268, attributes := #[] }, { accessFlags := 1, nameIndex := 399, descriptorIndex := 400, attributes := #[] }, { accessFlags := 4161, nameIndex := 345, descriptorIndex := 156, attributes := #[] }] 49 2 #[349, 351, 353, 355] #[{ accessFlags := 24, nameIndex := 357, descriptorIndex := 358, attributes := #[] }])
  fields := #[{ name := "serialVersionUID", type := .long, accessFlags := 24, slot := 0, constantValue := 0 }]
  methods := #[k12m0, k12m1, k12m2, k12m3, k12m4]
  instanceTypes := #[(.array .byte), .byte, .boolean, .int]
  staticTypes := #[.long]
  resolved := Array.replicate 422 none
  statics := none }

def pool13 : Array CpInfo := pool [(2, .class_ 4), (1, u "java/lang/Object"), (0, u "<init>"), (0, u "()V"), (1, .class_ 10), (1, u "java/lang/System"), (0, u "allowSecurityManager"), (0, u "I"), (16, u "cons"), (0, u "Ljava/io/Console;"), (77, .class_ 110), (1, u "java/lang/System$CallersHolder"), (43, u "initialErrStream"), (0, u "Ljava/io/PrintStream;"), (19, u "security"), (0, u "Ljava/lang/SecurityManager;"), (31, .class_ 209), (0, u "java/lang/System$1"), (7, u "props"), (0, u "Ljava/util/Properties;"), (2, u "lineSeparator"), (0, u "Ljava/lang/String;"), (96, .class_ 321), (1, u "java/lang/System$LoggerFinder"), (5, .class_ 328), (0, u "java/lang/System$Logger"), (67, u "err"), (2, u "out"), (91, u "notSupportedJnuEncoding"), (15, u "in"), (17, u "initialIn"), (0, u "Ljava/io/InputStream;"), (35, u "bootLayer"), (0, u "Ljava/lang/ModuleLayer;"), (99, .class_ 664), (0, u "java/lang/System$2"), (9, u "NEVER"), (2, u "MAYBE"), (49, u "arraycopy"), (0, u "(Ljava/lang/Object;ILjava/lang/Object;II)V"), (72, .class_ 802), (0, u "java/lang/System$Logger$Level")] 31

def k13m0 : Method := { name := "<init>", desc := "()V", sig := { parameters := [], returnType := none }, accessFlags := 2, code := none }
def k13m1 : Method := { name := "arraycopy", desc := "(Ljava/lang/Object;ILjava/lang/Object;II)V", sig := { parameters := [(.object "java/lang/Object"), .int, (.object "java/lang/Object"), .int, .int], returnType := none }, accessFlags := 265, code := none }
/-- java/lang/System -/
def k13 : Class := { plain "java/lang/System" (some 0) with
  accessFlags := 49
  interfaces := #[]
  cf := some (fileOf pool13 8 #[.nestMembers #[319, 327, 801, 108, 663, 208]] #[{ accessFlags := 2, nameIndex := 5, descriptorIndex := 6, attributes := #[] }, { accessFlags := 265, nameIndex := 727, descriptorIndex := 728, attributes := #[] }] 49 2 #[] #[{ accessFlags := 25, nameIndex := 507, descriptorIndex := 526, attributes := #[] }, { accessFlags := 25, nameIndex := 399, descriptorIndex := 155, attributes := #[] }, { accessFlags := 25, nameIndex := 396, descriptorIndex := 155, attributes := #[] }, { accessFlags := 10, nameIndex := 525, descriptorIndex := 526, attributes := #[] }, { accessFlags := 26, nameIndex := 674, descriptorIndex := 12, attributes := #[] }, { accessFlags := 26, nameIndex := 677, descriptorIndex := 12, attributes := #[] }, { accessFlags := 10, nameIndex := 11, descriptorIndex := 12, attributes := #[] }, { accessFlags := 74, nameIndex := 175, descriptorIndex := 176, attributes := #[] }, { accessFlags := 10, nameIndex := 491, descriptorIndex := 222, attributes := #[] }, { accessFlags := 74, nameIndex := 29, descriptorIndex := 30, attributes := #[] }, { accessFlags := 74, nameIndex := 154, descriptorIndex := 155, attributes := #[] }, { accessFlags := 10, nameIndex := 217, descriptorIndex := 218, attributes := #[] }, { accessFlags := 10, nameIndex := 221, descriptorIndex := 222, attributes := #[] }, { accessFlags := 8, nameIndex := 562, descriptorIndex := 563, attributes := #[] }])
  fields := #[{ name := "in", type := (.object "java/io/InputStream"), accessFlags := 25, slot := 0, constantValue := 0 }, { name := "out", type := (.object "java/io/PrintStream"), accessFlags := 25, slot := 1, constantValue := 0 }, { name := "err", type := (.object "java/io/PrintStream"), accessFlags := 25, slot := 2, constantValue := 0 }, { name := "initialIn", type := (.object "java/io/InputStream"), accessFlags := 10, slot := 3, constantValue := 0 }, { name := "NEVER", type := .int, accessFlags := 26, slot := 4, constantValue := 0 }, { name := "MAYBE", type := .int, accessFlags := 26, slot := 5, constantValue := 0 }, { name := "allowSecurityManager", type := .int, accessFlags := 10, slot := 6, constantValue := 0 }, { name := "security", type := (.object "java/lang/SecurityManager"), accessFlags := 74, slot := 7, constantValue := 0 }, { name := "notSupportedJnuEncoding", type := (.object "java/lang/String"), accessFlags := 10, slot := 8, constantValue := 0 }, { name := "cons", type := (.object "java/io/Console"), accessFlags := 74, slot := 9, constantValue := 0 }, { name := "initialErrStream", type := (.object "java/io/PrintStream"), accessFlags := 74, slot := 10, constantValue := 0 }, { name := "props", type := (.object "java/util/Properties"), accessFlags := 10, slot := 11, constantValue := 0 }, { name := "lineSeparator", type := (.object "java/lang/String"), accessFlags := 10, slot := 12, constantValue := 0 }, { name := "bootLayer", type := (.object "java/lang/ModuleLayer"), accessFlags := 8, slot := 13, constantValue := 0 }]
  methods := #[k13m0, k13m1]
  instanceTypes := #[]
  staticTypes := #[(.object "java/io/InputStream"), (.object "java/io/PrintStream"), (.object "java/io/PrintStream"), (.object "java/io/InputStream"), .int, .int, .int, (.object "java/lang/SecurityManager"), (.object "java/lang/String"), (.object "java/io/Console"), (.object "java/io/PrintStream"), (.object "java/util/Properties"), (.object "java/lang/String"), (.object "java/lang/ModuleLayer")]
  resolved := Array.replicate 834 none
  statics := none }

def pool14 : Array CpInfo := pool [(2, .class_ 4), (1, u "java/lang/Object"), (0, u "<init>"), (0, u "()V"), (1, .class_ 10), (1, u "java/lang/Number"), (2, .class_ 14), (0, u "java/io/Serializable"), (0, u "serialVersionUID"), (0, u "J")] 20

def k14m0 : Method := { name := "<init>", desc := "()V", sig := { parameters := [], returnType := none }, accessFlags := 1, code := none }
/-- java/lang/Number -/
def k14 : Class := { plain "java/lang/Number" (some 0) with
  accessFlags := 1057
  interfaces := #[2]
  cf := some (fileOf pool14 8 #[] #[{ accessFlags := 1, nameIndex := 5, descriptorIndex := 6, attributes := #[] }] 1057 2 #[13] #[{ accessFlags := 26, nameIndex := 15, descriptorIndex := 16, attributes := #[] }])
  fields := #[{ name := "serialVersionUID", type := .long, accessFlags := 26, slot := 0, constantValue := 0 }]
  methods := #[k14m0]
  instanceTypes := #[]
  staticTypes := #[.long]
  resolved := Array.replicate 37 none
  statics := none }

def pool15 : Array CpInfo := pool [(1, .class_ 2), (0, u "java/lang/Integer"), (16, u "digits"), (0, u "[C"), (33, u "(I)I"), (19, u "stringSize"), (2, u "getChars"), (0, u "(II[B)I"), (4, .fieldref 1 84), (0, .nameAndType 85 86), (0, u "DigitOnes"), (0, u "[B"), (0, .fieldref 1 88), (0, .nameAndType 89 86), (0, u "DigitTens"), (99, .class_ 190), (0, u "java/lang/Integer$IntegerCache"), (3, u "I"), (8, .class_ 204), (0, u "java/lang/Number"), (2, u "value"), (94, u "TYPE"), (0, u "Ljava/lang/Class;"), (0, .class_ 305), (0, u "java/lang/Comparable"), (0, .class_ 307), (0, u "java/lang/constant/Constable"), (0, .class_ 309), (0, u "java/lang/constant/ConstantDesc"), (0, u "MIN_VALUE"), (1, u "MAX_VALUE"), (3, u "SIZE"), (1, u "BYTES"), (1, u "serialVersionUID"), (0, u "J")] 131

def k15c0 : Code := { maxStack := 4, maxLocals := 7, code := jdk_33_method_12_code, exceptionTable := #[], attributes := #[] }
def k15m0 : Method := { name := "getChars", desc := "(II[B)I", sig := { parameters := [.int, .int, (.array .byte)], returnType := some .int }, accessFlags := 8, code := some k15c0 }
def k15c1 : Code := { maxStack := 2, maxLocals := 4, code := jdk_33_method_13_code, exceptionTable := #[], attributes := #[] }
def k15m1 : Method := { name := "stringSize", desc := "(I)I", sig := { parameters := [.int], returnType := some .int }, accessFlags := 8, code := some k15c1 }
/-- java/lang/Integer -/
def k15 : Class := { plain "java/lang/Integer" (some 14) with
  accessFlags := 49
  interfaces := #[3, 5, 6]
  cf := some (fileOf pool15 1 #[.nestMembers #[189]] #[{ accessFlags := 8, nameIndex := 77, descriptorIndex := 78, attributes := #[] }, { accessFlags := 8, nameIndex := 74, descriptorIndex := 54, attributes := #[] }] 49 203 #[304, 306, 308] #[{ accessFlags := 25, nameIndex := 310, descriptorIndex := 194, attributes := #[] }, { accessFlags := 25, nameIndex := 312, descriptorIndex := 194, attributes := #[] }, { accessFlags := 25, nameIndex := 302, descriptorIndex := 303, attributes := #[] }, { accessFlags := 24, nameIndex := 19, descriptorIndex := 20, attributes := #[] }, { accessFlags := 24, nameIndex := 89, descriptorIndex := 86, attributes := #[] }, { accessFlags := 24, nameIndex := 85, descriptorIndex := 86, attributes := #[] }, { accessFlags := 18, nameIndex := 207, descriptorIndex := 194, attributes := #[] }, { accessFlags := 25, nameIndex := 316, descriptorIndex := 194, attributes := #[] }, { accessFlags := 25, nameIndex := 318, descriptorIndex := 194, attributes := #[] }, { accessFlags := 26, nameIndex := 320, descriptorIndex := 321, attributes := #[] }])
  fields := #[{ name := "MIN_VALUE", type := .int, accessFlags := 25, slot := 0, constantValue := 0 }, { name := "MAX_VALUE", type := .int, accessFlags := 25, slot := 1, constantValue := 0 }, { name := "TYPE", type := (.object "java/lang/Class"), accessFlags := 25, slot := 2, constantValue := 0 }, { name := "digits", type := (.array .char), accessFlags := 24, slot := 3, constantValue := 0 }, { name := "DigitTens", type := (.array .byte), accessFlags := 24, slot := 4, constantValue := 0 }, { name := "DigitOnes", type := (.array .byte), accessFlags := 24, slot := 5, constantValue := 0 }, { name := "value", type := .int, accessFlags := 18, slot := 0, constantValue := 0 }, { name := "SIZE", type := .int, accessFlags := 25, slot := 6, constantValue := 0 }, { name := "BYTES", type := .int, accessFlags := 25, slot := 7, constantValue := 0 }, { name := "serialVersionUID", type := .long, accessFlags := 26, slot := 8, constantValue := 0 }]
  methods := #[k15m0, k15m1]
  instanceTypes := #[.int]
  staticTypes := #[.int, .int, (.object "java/lang/Class"), (.array .char), (.array .byte), (.array .byte), .int, .int, .long]
  resolved := Array.replicate 453 none
  statics := some 1 }

def pool16 : Array CpInfo := pool [(9, u "<init>"), (6, .class_ 18), (1, u "java/lang/Object"), (0, u "()V"), (1, .class_ 23), (1, u "jdk/internal/util/ArraysSupport"), (0, u "LOG2_ARRAY_LONG_INDEX_SCALE"), (0, u "I"), (2, u "U"), (0, u "Ljdk/internal/misc/Unsafe;"), (8, u "BIG_ENDIAN"), (0, u "Z"), (8, u "LOG2_BYTE_BIT_SIZE"), (4, u "LOG2_ARRAY_INT_INDEX_SCALE"), (54, u "JLA"), (0, u "Ljdk/internal/access/JavaLangAccess;"), (11, u "LOG2_ARRAY_BOOLEAN_INDEX_SCALE"), (9, u "LOG2_ARRAY_BYTE_INDEX_SCALE"), (5, u "LOG2_ARRAY_CHAR_INDEX_SCALE"), (5, u "LOG2_ARRAY_SHORT_INDEX_SCALE"), (18, u "LOG2_ARRAY_FLOAT_INDEX_SCALE"), (24, u "LOG2_ARRAY_DOUBLE_INDEX_SCALE"), (6, .methodref 195 196), (0, .class_ 197), (0, .nameAndType 198 199), (0, u "java/lang/Math"), (0, u "max"), (0, u "(II)I"), (0, .integer 2147483639), (76, u "T_BOOLEAN"), (2, u "T_CHAR"), (1, u "T_FLOAT"), (1, u "T_DOUBLE"), (1, u "T_BYTE"), (1, u "T_SHORT"), (1, u "T_INT"), (1, u "T_LONG"), (1, u "SOFT_MAX_ARRAY_LENGTH"), (56, u "newLength"), (0, u "(III)I")] 25

def k16m0 : Method := { name := "<init>", desc := "()V", sig := { parameters := [], returnType := none }, accessFlags := 2, code := none }
def k16c1 : Code := { maxStack := 3, maxLocals := 4, code := jdk_48_method_27_code, exceptionTable := #[], attributes := #[] }
def k16m1 : Method := { name := "newLength", desc := "(III)I", sig := { parameters := [.int, .int, .int], returnType := some .int }, accessFlags := 9, code := some k16c1 }
/-- jdk/internal/util/ArraysSupport -/
def k16 : Class := { plain "jdk/internal/util/ArraysSupport" (some 0) with
  accessFlags := 33
  interfaces := #[]
  cf := some (fileOf pool16 21 #[] #[{ accessFlags := 2, nameIndex := 9, descriptorIndex := 19, attributes := #[] }, { accessFlags := 9, nameIndex := 351, descriptorIndex := 352, attributes := #[] }] 33 16 #[] #[{ accessFlags := 24, nameIndex := 28, descriptorIndex := 29, attributes := #[] }, { accessFlags := 26, nameIndex := 38, descriptorIndex := 39, attributes := #[] }, { accessFlags := 25, nameIndex := 121, descriptorIndex := 25, attributes := #[] }, { accessFlags := 25, nameIndex := 131, descriptorIndex := 25, attributes := #[] }, { accessFlags := 25, nameIndex := 137, descriptorIndex := 25, attributes := #[] }, { accessFlags := 25, nameIndex := 143, descriptorIndex := 25, attributes := #[] }, { accessFlags := 25, nameIndex := 53, descriptorIndex := 25, attributes := #[] }, { accessFlags := 25, nameIndex := 24, descriptorIndex := 25, attributes := #[] }, { accessFlags := 25, nameIndex := 162, descriptorIndex := 25, attributes := #[] }, { accessFlags := 25, nameIndex := 187, descriptorIndex := 25, attributes := #[] }, { accessFlags := 26, nameIndex := 48, descriptorIndex := 25, attributes := #[] }, { accessFlags := 25, nameIndex := 277, descriptorIndex := 25, attributes := #[] }, { accessFlags := 25, nameIndex := 280, descriptorIndex := 25, attributes := #[] }, { accessFlags := 25, nameIndex := 282, descriptorIndex := 25, attributes := #[] }, { accessFlags := 25, nameIndex := 284, descriptorIndex := 25, attributes := #[] }, { accessFlags := 25, nameIndex := 286, descriptorIndex := 25, attributes := #[] }, { accessFlags := 25, nameIndex := 288, descriptorIndex := 25, attributes := #[] }, { accessFlags := 25, nameIndex := 290, descriptorIndex := 25, attributes := #[] }, { accessFlags := 25, nameIndex := 292, descriptorIndex := 25, attributes := #[] }, { accessFlags := 26, nameIndex := 108, descriptorIndex := 109, attributes := #[] }, { accessFlags := 25, nameIndex := 294, descriptorIndex := 25, attributes := #[] }])
  fields := #[{ name := "U", type := (.object "jdk/internal/misc/Unsafe"), accessFlags := 24, slot := 0, constantValue := 0 }, { name := "BIG_ENDIAN", type := .boolean, accessFlags := 26, slot := 1, constantValue := 0 }, { name := "LOG2_ARRAY_BOOLEAN_INDEX_SCALE", type := .int, accessFlags := 25, slot := 2, constantValue := 0 }, { name := "LOG2_ARRAY_BYTE_INDEX_SCALE", type := .int, accessFlags := 25, slot := 3, constantValue := 0 }, { name := "LOG2_ARRAY_CHAR_INDEX_SCALE", type := .int, accessFlags := 25, slot := 4, constantValue := 0 }, { name := "LOG2_ARRAY_SHORT_INDEX_SCALE", type := .int, accessFlags := 25, slot := 5, constantValue := 0 }, { name := "LOG2_ARRAY_INT_INDEX_SCALE", type := .int, accessFlags := 25, slot := 6, constantValue := 0 }, { name := "LOG2_ARRAY_LONG_INDEX_SCALE", type := .int, accessFlags := 25, slot := 7, constantValue := 0 }, { name := "LOG2_ARRAY_FLOAT_INDEX_SCALE", type := .int, accessFlags := 25, slot := 8, constantValue := 0 }, { name := "LOG2_ARRAY_DOUBLE_INDEX_SCALE", type := .int, accessFlags := 25, slot := 9, constantValue := 0 }, { name := "LOG2_BYTE_BIT_SIZE", type := .int, accessFlags := 26, slot := 10, constantValue := 0 }, { name := "T_BOOLEAN", type := .int, accessFlags := 25, slot := 11, constantValue := 0 }, { name := "T_CHAR", type := .int, accessFlags := 25, slot := 12, constantValue := 0 }, { name := "T_FLOAT", type := .int, accessFlags := 25, slot := 13, constantValue := 0 }, { name := "T_DOUBLE", type := .int, accessFlags := 25, slot := 14, constantValue := 0 }, { name := "T_BYTE", type := .int, accessFlags := 25, slot := 15, constantValue := 0 }, { name := "T_SHORT", type := .int, accessFlags := 25, slot := 16, constantValue := 0 }, { name := "T_INT", type := .int, accessFlags := 25, slot := 17, constantValue := 0 }, { name := "T_LONG", type := .int, accessFlags := 25, slot := 18, constantValue := 0 }, { name := "JLA", type := (.object "jdk/internal/access/JavaLangAccess"), accessFlags := 26, slot := 19, constantValue := 0 }, { name := "SOFT_MAX_ARRAY_LENGTH", type := .int, accessFlags := 25, slot := 20, constantValue := 0 }]
  methods := #[k16m0, k16m1]
  instanceTypes := #[]
  staticTypes := #[(.object "jdk/internal/misc/Unsafe"), .boolean, .int, .int, .int, .int, .int, .int, .int, .int, .int, .int, .int, .int, .int, .int, .int, .int, .int, (.object "jdk/internal/access/JavaLangAccess"), .int]
  resolved := Array.replicate 378 none
  statics := none }

def pool17 : Array CpInfo := pool [(1, .class_ 2), (0, u "java/lang/Math"), (1, .class_ 6), (1, u "java/lang/Object"), (0, u "<init>"), (0, u "()V"), (89, .class_ 100), (1, u "java/lang/Math$RandomNumberGeneratorHolder"), (71, u "negativeZeroFloatBits"), (0, u "J"), (2, u "negativeZeroDoubleBits"), (21, u "max"), (2, u "min"), (43, u "$assertionsDisabled"), (0, u "Z"), (88, u "(II)I"), (2, u "twoToTheDoubleScaleDown"), (0, u "D"), (4, u "twoToTheDoubleScaleUp"), (9, u "E"), (3, u "PI"), (2, u "TAU"), (2, u "DEGREES_TO_RADIANS"), (0, u "RADIANS_TO_DEGREES")] 94

def k17m0 : Method := { name := "<init>", desc := "()V", sig := { parameters := [], returnType := none }, accessFlags := 2, code := none }
def k17c1 : Code := { maxStack := 2, maxLocals := 2, code := jdk_29_method_65_code, exceptionTable := #[], attributes := #[] }
def k17m1 : Method := { name := "max", desc := "(II)I", sig := { parameters := [.int, .int], returnType := some .int }, accessFlags := 9, code := some k17c1 }
def k17c2 : Code := { maxStack := 2, maxLocals := 2, code := jdk_29_method_69_code, exceptionTable := #[], attributes := #[] }
def k17m2 : Method := { name := "min", desc := "(II)I", sig := { parameters := [.int, .int], returnType := some .int }, accessFlags := 9, code := some k17c2 }
/-- java/lang/Math -/
def k17 : Class := { plain "java/lang/Math" (some 0) with
  accessFlags := 49
  interfaces := #[]
  cf := some (fileOf pool17 1 #[.nestMembers #[98]] #[{ accessFlags := 2, nameIndex := 7, descriptorIndex := 8, attributes := #[] }, { accessFlags := 9, nameIndex := 198, descriptorIndex := 335, attributes := #[] }, { accessFlags := 9, nameIndex := 201, descriptorIndex := 335, attributes := #[] }] 49 4 #[] #[{ accessFlags := 25, nameIndex := 354, descriptorIndex := 339, attributes := #[] }, { accessFlags := 25, nameIndex := 358, descriptorIndex := 339, attributes := #[] }, { accessFlags := 25, nameIndex := 361, descriptorIndex := 339, attributes := #[] }, { accessFlags := 26, nameIndex := 364, descriptorIndex := 339, attributes := #[] }, { accessFlags := 26, nameIndex := 365, descriptorIndex := 339, attributes := #[] }, { accessFlags := 26, nameIndex := 172, descriptorIndex := 173, attributes := #[] }, { accessFlags := 26, nameIndex := 176, descriptorIndex := 173, attributes := #[] }, { accessFlags := 8, nameIndex := 344, descriptorIndex := 339, attributes := #[] }, { accessFlags := 8, nameIndex := 338, descriptorIndex := 339, attributes := #[] }, { accessFlags := 4120, nameIndex := 245, descriptorIndex := 246, attributes := #[] }])
  fields := #[{ name := "E", type := .double, accessFlags := 25, slot := 0, constantValue := 0 }, { name := "PI", type := .double, accessFlags := 25, slot := 1, constantValue := 0 }, { name := "TAU", type := .double, accessFlags := 25, slot := 2, constantValue := 0 }, { name := "DEGREES_TO_RADIANS", type := .double, accessFlags := 26, slot := 3, constantValue := 0 }, { name := "RADIANS_TO_DEGREES", type := .double, accessFlags := 26, slot := 4, constantValue := 0 }, { name := "negativeZeroFloatBits", type := .long, accessFlags := 26, slot := 5, constantValue := 0 }, { name := "negativeZeroDoubleBits", type := .long, accessFlags := 26, slot := 6, constantValue := 0 }, { name := "twoToTheDoubleScaleUp", type := .double, accessFlags := 8, slot := 7, constantValue := 0 }, { name := "twoToTheDoubleScaleDown", type := .double, accessFlags := 8, slot := 8, constantValue := 0 }, { name := "$assertionsDisabled", type := .boolean, accessFlags := 4120, slot := 9, constantValue := 0 }]
  methods := #[k17m0, k17m1, k17m2]
  instanceTypes := #[]
  staticTypes := #[.double, .double, .double, .double, .double, .long, .long, .double, .double, .boolean]
  resolved := Array.replicate 460 none
  statics := none }

def pool18 : Array CpInfo := pool [(2, .class_ 4), (1, u "java/lang/Object"), (0, u "<init>"), (0, u "()V"), (7, .class_ 16), (1, u "java/util/Arrays"), (57, .class_ 76), (1, u "java/util/Arrays$NaturalOrder"), (36, .class_ 115), (1, u "java/util/Arrays$LegacyMergeSort"), (1, u "Z"), (21, u "copyOfRange"), (10, .methodref 151 152), (0, .class_ 153), (0, .nameAndType 154 155), (0, u "java/lang/System"), (0, u "arraycopy"), (0, u "(Ljava/lang/Object;ILjava/lang/Object;II)V"), (146, u "copyOf"), (1, .methodref 305 306), (0, .class_ 307), (0, .nameAndType 308 309), (0, u "java/lang/Math"), (0, u "min"), (0, u "(II)I"), (29, .methodref 14 340), (0, .nameAndType 341 342), (0, u "copyOfRangeByte"), (0, u "([BII)[B"), (0, .methodref 14 344), (0, .nameAndType 345 346), (0, u "checkLength"), (0, u "(II)V"), (28, .class_ 376), (0, u "java/util/Arrays$ArrayList"), (68, u "$assertionsDisabled"), (269, u "MIN_ARRAY_SORT_GRAN"), (0, u "I"), (2, u "INSERTIONSORT_THRESHOLD"), (149, u "([BI)[B"), (105, .class_ 976), (0, u "java/util/Arrays$ArrayItr")] 52

def k18m0 : Method := { name := "<init>", desc := "()V", sig := { parameters := [], returnType := none }, accessFlags := 2, code := none }
def k18c1 : Code := { maxStack := 6, maxLocals := 3, code := jdk_65_method_121_code, exceptionTable := #[], attributes := #[] }
def k18m1 : Method := { name := "copyOf", desc := "([BI)[B", sig := { parameters := [(.array .byte), .int], returnType := some (.array .byte) }, accessFlags := 9, code := some k18c1 }
def k18c2 : Code := { maxStack := 4, maxLocals := 2, code := jdk_65_method_131_code, exceptionTable := #[], attributes := #[] }
def k18m2 : Method := { name := "checkLength", desc := "(II)V", sig := { parameters := [.int, .int], returnType := none }, accessFlags := 10, code := some k18c2 }
def k18c3 : Code := { maxStack := 3, maxLocals := 3, code := jdk_65_method_132_code, exceptionTable := #[], attributes := #[] }
def k18m3 : Method := { name := "copyOfRange", desc := "([BII)[B", sig := { parameters := [(.array .byte), .int, .int], returnType := some (.array .byte) }, accessFlags := 9, code := some k18c3 }
def k18c4 : Code := { maxStack := 6, maxLocals := 5, code := jdk_65_method_133_code, exceptionTable := #[], attributes := #[] }
def k18m4 : Method := { name := "copyOfRangeByte", desc := "([BII)[B", sig := { parameters := [(.array .byte), .int, .int], returnType := some (.array .byte) }, accessFlags := 10, code := some k18c4 }
/-- java/util/Arrays -/
def k18 : Class := { plain "java/util/Arrays" (some 0) with
  accessFlags := 49
  interfaces := #[]
  cf := some (fileOf pool18 14 #[.nestMembers #[975, 375, 113, 74]] #[{ accessFlags := 2, nameIndex := 5, descriptorIndex := 6, attributes := #[] }, { accessFlags := 9, nameIndex := 302, descriptorIndex := 869, attributes := #[] }, { accessFlags := 10, nameIndex := 345, descriptorIndex := 346, attributes := #[] }, { accessFlags := 9, nameIndex := 139, descriptorIndex := 342, attributes := #[] }, { accessFlags := 10, nameIndex := 341, descriptorIndex := 342, attributes := #[] }] 49 2 #[] #[{ accessFlags := 26, nameIndex := 715, descriptorIndex := 716, attributes := #[] }, { accessFlags := 26, nameIndex := 719, descriptorIndex := 716, attributes := #[] }, { accessFlags := 4120, nameIndex := 445, descriptorIndex := 117, attributes := #[] }])
  fields := #[{ name := "MIN_ARRAY_SORT_GRAN", type := .int, accessFlags := 26, slot := 0, constantValue := 0 }, { name := "INSERTIONSORT_THRESHOLD", type := .int, accessFlags := 26, slot := 1, constantValue := 0 }, { name := "$assertionsDisabled", type := .boolean, accessFlags := 4120, slot := 2, constantValue := 0 }]
  methods := #[k18m0, k18m1, k18m2, k18m3, k18m4]
  instanceTypes := #[]
  staticTypes := #[.int, .int, .boolean]
  resolved := Array.replicate 1029 none
  statics := none }

def pool19 : Array CpInfo := pool [(1, .class_ 2), (0, u "java/lang/String"), (1, .class_ 6), (1, u "java/lang/Object"), (0, u "<init>"), (0, u "()V"), (0, .methodref 1 10), (0, .nameAndType 11 12), (0, u "checkIndex"), (0, u "(II)V"), (1, .class_ 16), (1, u "java/lang/StringLatin1"), (36, u "([BI)C"), (67, u "$assertionsDisabled"), (0, u "Z"), (98, .class_ 223), (1, u "java/lang/StringLatin1$LinesSpliterator"), (28, u "charAt"), (137, .class_ 391), (0, u "java/lang/StringLatin1$CharsSpliterator")] 3

def k19m0 : Method := { name := "<init>", desc := "()V", sig := { parameters := [], returnType := none }, accessFlags := 0, code := none }
def k19c1 : Code := { maxStack := 2, maxLocals := 2, code := jdk_43_method_2_code, exceptionTable := #[], attributes := #[] }
def k19m1 : Method := { name := "charAt", desc := "([BI)C", sig := { parameters := [(.array .byte), .int], returnType := some .char }, accessFlags := 9, code := some k19c1 }
/-- java/lang/StringLatin1 -/
def k19 : Class := { plain "java/lang/StringLatin1" (some 0) with
  accessFlags := 48
  interfaces := #[]
  cf := some (fileOf pool19 14 #[.nestMembers #[390, 221]] #[{ accessFlags := 0, nameIndex := 7, descriptorIndex := 8, attributes := #[] }, { accessFlags := 9, nameIndex := 252, descriptorIndex := 53, attributes := #[] }] 48 4 #[] #[{ accessFlags := 4120, nameIndex := 121, descriptorIndex := 122, attributes := #[] }])
  fields := #[{ name := "$assertionsDisabled", type := .boolean, accessFlags := 4120, slot := 0, constantValue := 0 }]
  methods := #[k19m0, k19m1]
  instanceTypes := #[]
  staticTypes := #[.boolean]
  resolved := Array.replicate 395 none
  statics := none }

def pool20 : Array CpInfo := pool [(2, .class_ 4), (1, u "java/lang/Object"), (0, u "<init>"), (0, u "()V"), (17, .class_ 26), (1, u "jdk/internal/util/Preconditions"), (6, u "checkIndex"), (21, .class_ 56), (0, u "jdk/internal/util/Preconditions$4"), (57, .class_ 115), (0, u "jdk/internal/util/Preconditions$1"), (7, u "SIOOBE_FORMATTER"), (0, u "Ljava/util/function/BiFunction;"), (0, .class_ 126), (0, u "jdk/internal/util/Preconditions$2"), (3, u "AIOOBE_FORMATTER"), (0, .class_ 132), (0, u "jdk/internal/util/Preconditions$3"), (3, u "IOOBE_FORMATTER"), (41, u "(IILjava/util/function/BiFunction;)I")] 15

def k20m0 : Method := { name := "<init>", desc := "()V", sig := { parameters := [], returnType := none }, accessFlags := 1, code := none }
def k20c1 : Code := { maxStack := 3, maxLocals := 3, code := jdk_41_method_11_code, exceptionTable := #[], attributes := #[] }
def k20m1 : Method := { name := "checkIndex", desc := "(IILjava/util/function/BiFunction;)I", sig := { parameters := [.int, .int, (.object "java/util/function/BiFunction")], returnType := some .int }, accessFlags := 9, code := some k20c1 }
/-- jdk/internal/util/Preconditions -/
def k20 : Class := { plain "jdk/internal/util/Preconditions" (some 0) with
  accessFlags := 33
  interfaces := #[]
  cf := some (fileOf pool20 24 #[.nestMembers #[55, 131, 125, 114]] #[{ accessFlags := 1, nameIndex := 5, descriptorIndex := 6, attributes := #[] }, { accessFlags := 9, nameIndex := 33, descriptorIndex := 178, attributes := #[] }] 33 2 #[] #[{ accessFlags := 25, nameIndex := 123, descriptorIndex := 124, attributes := #[] }, { accessFlags := 25, nameIndex := 130, descriptorIndex := 124, attributes := #[] }, { accessFlags := 25, nameIndex := 136, descriptorIndex := 124, attributes := #[] }])
  fields := #[{ name := "SIOOBE_FORMATTER", type := (.object "java/util/function/BiFunction"), accessFlags := 25, slot := 0, constantValue := 0 }, { name := "AIOOBE_FORMATTER", type := (.object "java/util/function/BiFunction"), accessFlags := 25, slot := 1, constantValue := 0 }, { name := "IOOBE_FORMATTER", type := (.object "java/util/function/BiFunction"), accessFlags := 25, slot := 2, constantValue := 0 }]
  methods := #[k20m0, k20m1]
  instanceTypes := #[]
  staticTypes := #[(.object "java/util/function/BiFunction"), (.object "java/util/function/BiFunction"), (.object "java/util/function/BiFunction")]
  resolved := Array.replicate 194 none
  statics := some 2 }

def pool21 : Array CpInfo := pool [(6, .class_ 8), (1, u "java/lang/Object"), (0, u "<init>"), (0, u "()V"), (1, .class_ 14), (1, u "java/lang/StringUTF16"), (31, u "$assertionsDisabled"), (0, u "Z"), (13, u "HI_BYTE_SHIFT"), (0, u "I"), (2, u "LO_BYTE_SHIFT"), (49, .methodref 12 116), (0, .nameAndType 117 118), (0, u "compress"), (0, u "([CI[BII)I"), (3, u "([CII)[B"), (138, u "coderFromArrayLen"), (0, u "([BI)B"), (106, .class_ 371), (1, u "java/lang/StringUTF16$LinesSpliterator"), (58, u "MAX_LENGTH"), (196, .class_ 628), (0, u "java/lang/StringUTF16$CodePointsSpliterator"), (0, .class_ 630), (0, u "java/lang/StringUTF16$CharsSpliterator")] 4

def k21m0 : Method := { name := "<init>", desc := "()V", sig := { parameters := [], returnType := none }, accessFlags := 0, code := none }
def k21c1 : Code := { maxStack := 2, maxLocals := 2, code := jdk_52_method_15_code, exceptionTable := #[], attributes := #[] }
def k21m1 : Method := { name := "coderFromArrayLen", desc := "([BI)B", sig := { parameters := [(.array .byte), .int], returnType := some .byte }, accessFlags := 8, code := some k21c1 }
def k21c2 : Code := { maxStack := 5, maxLocals := 6, code := jdk_52_method_16_code, exceptionTable := #[], attributes := #[] }
def k21m2 : Method := { name := "compress", desc := "([CII)[B", sig := { parameters := [(.array .char), .int, .int], returnType := some (.array .byte) }, accessFlags := 9, code := some k21c2 }
def k21c3 : Code := { maxStack := 3, maxLocals := 7, code := jdk_52_method_21_code, exceptionTable := #[], attributes := #[] }
def k21m3 : Method := { name := "compress", desc := "([CI[BII)I", sig := { parameters := [(.array .char), .int, (.array .byte), .int, .int], returnType := some .int }, accessFlags := 9, code := some k21c3 }
/-- java/lang/StringUTF16 -/
def k21 : Class := { plain "java/lang/StringUTF16" (some 0) with
  accessFlags := 48
  interfaces := #[]
  cf := some (fileOf pool21 12 #[.nestMembers #[627, 629, 369]] #[{ accessFlags := 0, nameIndex := 9, descriptorIndex := 10, attributes := #[] }, { accessFlags := 8, nameIndex := 261, descriptorIndex := 262, attributes := #[] }, { accessFlags := 9, nameIndex := 117, descriptorIndex := 122, attributes := #[] }, { accessFlags := 9, nameIndex := 117, descriptorIndex := 118, attributes := #[] }] 48 6 #[] #[{ accessFlags := 26, nameIndex := 61, descriptorIndex := 62, attributes := #[] }, { accessFlags := 26, nameIndex := 65, descriptorIndex := 62, attributes := #[] }, { accessFlags := 24, nameIndex := 430, descriptorIndex := 62, attributes := #[] }, { accessFlags := 4120, nameIndex := 46, descriptorIndex := 47, attributes := #[] }])
  fields := #[{ name := "HI_BYTE_SHIFT", type := .int, accessFlags := 26, slot := 0, constantValue := 0 }, { name := "LO_BYTE_SHIFT", type := .int, accessFlags := 26, slot := 1, constantValue := 0 }, { name := "MAX_LENGTH", type := .int, accessFlags := 24, slot := 2, constantValue := 0 }, { name := "$assertionsDisabled", type := .boolean, accessFlags := 4120, slot := 3, constantValue := 0 }]
  methods := #[k21m0, k21m1, k21m2, k21m3]
  instanceTypes := #[]
  staticTypes := #[.int, .int, .int, .boolean]
  resolved := Array.replicate 635 none
  statics := none }

def pool22 : Array CpInfo := pool [(1, u "java/lang/Cloneable"), (0, .class_ 1), (0, u "java/lang/Object"), (0, .class_ 3)] 3

/-- java/lang/Cloneable -/
def k22 : Class := { plain "java/lang/Cloneable" (some 0) with
  accessFlags := 1537
  interfaces := #[]
  cf := some (fileOf pool22 2 #[] #[] 1537 4 #[] #[])
  fields := #[]
  methods := #[]
  instanceTypes := #[]
  staticTypes := #[]
  resolved := Array.replicate 8 none
  statics := none }

/-- the primitive byte -/
def k23 : Class := { plain "byte" none with kind := .primitive 'B', accessFlags := 0x411 }
/-- [B -/
def k24 : Class := { plain "[B" (some 0) with kind := .array 23 .byte, interfaces := #[22, 2], accessFlags := 1041 }

/-- the primitive char -/
def k25 : Class := { plain "char" none with kind := .primitive 'C', accessFlags := 0x411 }
/-- [C -/
def k26 : Class := { plain "[C" (some 0) with kind := .array 25 .char, interfaces := #[22, 2], accessFlags := 1041 }

/-- the primitive int -/
def k27 : Class := { plain "int" none with kind := .primitive 'I', accessFlags := 0x411 }
/-- [I -/
def k28 : Class := { plain "[I" (some 0) with kind := .array 27 .int, interfaces := #[22, 2], accessFlags := 1041 }

/-- the primitive long -/
def k29 : Class := { plain "long" none with kind := .primitive 'J', accessFlags := 0x411 }
/-- [J -/
def k30 : Class := { plain "[J" (some 0) with kind := .array 29 .long, interfaces := #[22, 2], accessFlags := 1041 }

def heap : Heap := #[{ cls := 7, slots := #[.long 0, .int 1, .null, .int 0, .null, .int 0, .int 0], vm := .statics 7 },
  { cls := 15, slots := #[.int 0, .int 0, .null, .null, .ref 4, .ref 3, .int 0, .int 0, .long 0], vm := .statics 15 },
  { cls := 20, slots := #[.null, .null, .null], vm := .statics 20 },
  { cls := 24, slots := #[.int 48, .int 49, .int 50, .int 51, .int 52, .int 53, .int 54, .int 55, .int 56, .int 57, .int 48, .int 49, .int 50, .int 51, .int 52, .int 53, .int 54, .int 55, .int 56, .int 57, .int 48, .int 49, .int 50, .int 51, .int 52, .int 53, .int 54, .int 55, .int 56, .int 57, .int 48, .int 49, .int 50, .int 51, .int 52, .int 53, .int 54, .int 55, .int 56, .int 57, .int 48, .int 49, .int 50, .int 51, .int 52, .int 53, .int 54, .int 55, .int 56, .int 57, .int 48, .int 49, .int 50, .int 51, .int 52, .int 53, .int 54, .int 55, .int 56, .int 57, .int 48, .int 49, .int 50, .int 51, .int 52, .int 53, .int 54, .int 55, .int 56, .int 57, .int 48, .int 49, .int 50, .int 51, .int 52, .int 53, .int 54, .int 55, .int 56, .int 57, .int 48, .int 49, .int 50, .int 51, .int 52, .int 53, .int 54, .int 55, .int 56, .int 57, .int 48, .int 49, .int 50, .int 51, .int 52, .int 53, .int 54, .int 55, .int 56, .int 57], vm := .none },
  { cls := 24, slots := #[.int 48, .int 48, .int 48, .int 48, .int 48, .int 48, .int 48, .int 48, .int 48, .int 48, .int 49, .int 49, .int 49, .int 49, .int 49, .int 49, .int 49, .int 49, .int 49, .int 49, .int 50, .int 50, .int 50, .int 50, .int 50, .int 50, .int 50, .int 50, .int 50, .int 50, .int 51, .int 51, .int 51, .int 51, .int 51, .int 51, .int 51, .int 51, .int 51, .int 51, .int 52, .int 52, .int 52, .int 52, .int 52, .int 52, .int 52, .int 52, .int 52, .int 52, .int 53, .int 53, .int 53, .int 53, .int 53, .int 53, .int 53, .int 53, .int 53, .int 53, .int 54, .int 54, .int 54, .int 54, .int 54, .int 54, .int 54, .int 54, .int 54, .int 54, .int 55, .int 55, .int 55, .int 55, .int 55, .int 55, .int 55, .int 55, .int 55, .int 55, .int 56, .int 56, .int 56, .int 56, .int 56, .int 56, .int 56, .int 56, .int 56, .int 56, .int 57, .int 57, .int 57, .int 57, .int 57, .int 57, .int 57, .int 57, .int 57, .int 57], vm := .none }]
def classes : Array Class := #[k0, k1, k2, k3, k4, k5, k6, k7, k8, k9, k10, k11, k12, k13, k14, k15, k16, k17, k18, k19, k20, k21, k22, k23, k24, k25, k26, k27, k28, k29, k30]
def interned : List (Array UInt16 × Addr) := []
def slotsUsed : Nat := 219
def theMethod : MethodId := ⟨1, 5⟩
def args0 : Array Value := #[.int 5, .int 5, .int 5, .int 5, .int 5]
def aboutOver (below : List Frame) : State where
  vm := { classes := classes, interned := interned.toArray }
  heap := heap
  slotsUsed := slotsUsed
  threads := #[{ frames := .invoking theMethod args0 :: below }]
def below0 : List Frame := [.native { method := ⟨0, 0⟩, args := #[] }]
def about1 : State := aboutOver below0
def p0 : Program := .bare "" "" ""
def e0 : Env := launch0.env 0 0 0
theorem w_frames : about1.frames = Frame.invoking theMethod args0 :: below0 := rfl
set_option maxRecDepth 65536 in
theorem w_args : argsFit about1.vm theMethod args0 = true := by decide +kernel
set_option maxRecDepth 65536 in
theorem w_heap : heapFits about1 = true := by decide +kernel
set_option maxRecDepth 65536 in
theorem w_runnable : about1.curStatus? = some .runnable := by decide +kernel
set_option maxRecDepth 65536 in
theorem w_alone : about1.alone = true := by decide +kernel
set_option maxRecDepth 65536 in
theorem w_named : about1.methodNamed? x = some theMethod := by decide +kernel
set_option maxRecDepth 65536 in
theorem w_hears : about1.hears theMethod below0 = true := by decide +kernel
set_option maxRecDepth 65536 in
theorem w_ripe : about1.ripe theMethod args0 below0 = true := by decide +kernel
theorem w_running : about1.status = .running := rfl
set_option maxRecDepth 65536 in
theorem w_room : about1.hasRoom e0.platform room_1 = true :=
  launch0.hasRoom_least _ room_1 (by decide +kernel) (by decide +kernel) (by decide +kernel) (by decide +kernel) (by decide +kernel) (by decide +kernel)
theorem allAtoms_all (ts : List Jvm.Cond) (a : Array Jvm.Value) (st : Jvm.State) : (allAtoms ts).before a st = ts.all (fun c => c.before a st) := by
  induction ts with
  | nil => rfl
  | cons c t ih =>
    show (Jvm.Cond.and c (allAtoms t)).before a st = _
    rw [Jvm.Cond.before_and, ih, List.all_cons]
def words1 : List Jvm.Cond := Jvm.Cond.code x code maxLocals ret :: tables_1
/-- a 'code' word, met by the world's own term for the bytes: nothing is compared byte by byte -/
theorem code_word {y : MethodName} {bytes : ByteArray} {mx : Nat} {rt : Option FieldType} {a : Array Value} {s : State} {m : MethodId} {meth : Method} {c : Code} (h1 : s.methodNamed? y = some m) (h2 : s.vm.method? m = some meth) (h3 : meth.code = some c) (h4 : c.code = bytes)
    (h5 : (c.maxLocals == mx && c.exceptionTable.isEmpty && decide (c.maxStack ≤ mostOperands) && decide (meth.sig.returnType = rt) && !meth.locks && decide (parseMethodDescriptor y.desc = some meth.sig)) = true) : (Jvm.Cond.code y bytes mx rt).before a s = true := by
  simp only [Bool.and_eq_true, beq_iff_eq, Bool.not_eq_true', decide_eq_true_eq] at h5
  obtain ⟨⟨⟨⟨⟨g1, g2⟩, g3⟩, g4⟩, g5⟩, g6⟩ := h5
  simp [Cond.before, Cond.holds, Cond.value, h1, h2, h3, h4, g1, g2, g3, g4, g5, g6]
def isCode : Jvm.Cond → Bool
  | .code _ _ _ _ => true
  | _ => false
theorem all_split {L : List Jvm.Cond} {P : Jvm.Cond → Bool} (h1 : L.all (fun c => isCode c || P c) = true) (h2 : ∀ c ∈ L.filter isCode, P c = true) : L.all P = true := by
  refine List.all_eq_true.mpr fun c hc => ?_
  have h := List.all_eq_true.mp h1 c hc
  rcases Bool.eq_false_or_eq_true (isCode c) with hi | hi
  · exact h2 c (List.mem_filter.mpr ⟨hc, hi⟩)
  · simpa [hi] using h
set_option maxRecDepth 65536 in
theorem w_c0 : (Jvm.Cond.code x code maxLocals ret).before args0 about1 = true := code_word (m := ⟨1, 5⟩) (meth := k1m5) (c := k1c5) (by decide +kernel) rfl rfl rfl (by decide +kernel)
set_option maxRecDepth 65536 in
theorem w_c1 : (Jvm.Cond.code ({ cls := "java/lang/String", name := "<init>", desc := "([C)V" } : Jvm.MethodName) jdk_42_method_3_code (2 : Nat) (Option.none : Option Jvm.ClassFile.FieldType)).before args0 about1 = true := code_word (m := ⟨7, 1⟩) (meth := k7m1) (c := k7c1) (by decide +kernel) rfl rfl rfl (by decide +kernel)
set_option maxRecDepth 65536 in
theorem w_c2 : (Jvm.Cond.code ({ cls := "java/lang/String", name := "<init>", desc := "([CIILjava/lang/Void;)V" } : Jvm.MethodName) jdk_42_method_149_code (6 : Nat) (Option.none : Option Jvm.ClassFile.FieldType)).before args0 about1 = true := code_word (m := ⟨7, 6⟩) (meth := k7m6) (c := k7c6) (by decide +kernel) rfl rfl rfl (by decide +kernel)
set_option maxRecDepth 65536 in
theorem w_c3 : (Jvm.Cond.code ({ cls := "java/lang/Object", name := "<init>", desc := "()V" } : Jvm.MethodName) object_method_1_code (1 : Nat) (Option.none : Option Jvm.ClassFile.FieldType)).before args0 about1 = true := code_word (m := ⟨0, 0⟩) (meth := k0m0) (c := k0c0) (by decide +kernel) rfl rfl rfl (by decide +kernel)
set_option maxRecDepth 65536 in
theorem w_c4 : (Jvm.Cond.code ({ cls := "com/example/wire_to_worker/wiretoworker/broker/QueueName", name := "<init>", desc := "(Ljava/lang/String;I)V" } : Jvm.MethodName) prog_5_method_1_code (3 : Nat) (Option.none : Option Jvm.ClassFile.FieldType)).before args0 about1 = true := code_word (m := ⟨9, 0⟩) (meth := k9m0) (c := k9c0) (by decide +kernel) rfl rfl rfl (by decide +kernel)
set_option maxRecDepth 65536 in
theorem w_c5 : (Jvm.Cond.code ({ cls := "java/lang/Record", name := "<init>", desc := "()V" } : Jvm.MethodName) jdk_30_method_1_code (1 : Nat) (Option.none : Option Jvm.ClassFile.FieldType)).before args0 about1 = true := code_word (m := ⟨8, 0⟩) (meth := k8m0) (c := k8c0) (by decide +kernel) rfl rfl rfl (by decide +kernel)
set_option maxRecDepth 65536 in
theorem w_c6 : (Jvm.Cond.code ({ cls := "com/example/wire_to_worker/wiretoworker/broker/QueueName", name := "toString", desc := "()Ljava/lang/String;" } : Jvm.MethodName) prog_5_method_2_code (1 : Nat) (Option.some (Jvm.ClassFile.FieldType.object "java/lang/String"))).before args0 about1 = true := code_word (m := ⟨9, 1⟩) (meth := k9m1) (c := k9c1) (by decide +kernel) rfl rfl rfl (by decide +kernel)
set_option maxRecDepth 65536 in
theorem w_c7 : (Jvm.Cond.code ({ cls := "java/lang/StringBuilder", name := "<init>", desc := "()V" } : Jvm.MethodName) jdk_67_method_1_code (1 : Nat) (Option.none : Option Jvm.ClassFile.FieldType)).before args0 about1 = true := code_word (m := ⟨12, 0⟩) (meth := k12m0) (c := k12c0) (by decide +kernel) rfl rfl rfl (by decide +kernel)
set_option maxRecDepth 65536 in
theorem w_c8 : (Jvm.Cond.code ({ cls := "java/lang/AbstractStringBuilder", name := "<init>", desc := "(I)V" } : Jvm.MethodName) jdk_68_method_2_code (2 : Nat) (Option.none : Option Jvm.ClassFile.FieldType)).before args0 about1 = true := code_word (m := ⟨11, 1⟩) (meth := k11m1) (c := k11c1) (by decide +kernel) rfl rfl rfl (by decide +kernel)
set_option maxRecDepth 65536 in
theorem w_c9 : (Jvm.Cond.code ({ cls := "java/lang/StringBuilder", name := "append", desc := "(Ljava/lang/String;)Ljava/lang/StringBuilder;" } : Jvm.MethodName) jdk_67_method_7_code (2 : Nat) (Option.some (Jvm.ClassFile.FieldType.object "java/lang/StringBuilder"))).before args0 about1 = true := code_word (m := ⟨12, 1⟩) (meth := k12m1) (c := k12c1) (by decide +kernel) rfl rfl rfl (by decide +kernel)
set_option maxRecDepth 65536 in
theorem w_c10 : (Jvm.Cond.code ({ cls := "java/lang/AbstractStringBuilder", name := "append", desc := "(Ljava/lang/String;)Ljava/lang/AbstractStringBuilder;" } : Jvm.MethodName) jdk_68_method_22_code (3 : Nat) (Option.some (Jvm.ClassFile.FieldType.object "java/lang/AbstractStringBuilder"))).before args0 about1 = true := code_word (m := ⟨11, 5⟩) (meth := k11m5) (c := k11c5) (by decide +kernel) rfl rfl rfl (by decide +kernel)
set_option maxRecDepth 65536 in
theorem w_c11 : (Jvm.Cond.code ({ cls := "java/lang/String", name := "length", desc := "()I" } : Jvm.MethodName) jdk_42_method_54_code (1 : Nat) (Option.some Jvm.ClassFile.FieldType.int)).before args0 about1 = true := code_word (m := ⟨7, 3⟩) (meth := k7m3) (c := k7c3) (by decide +kernel) rfl rfl rfl (by decide +kernel)
set_option maxRecDepth 65536 in
theorem w_c12 : (Jvm.Cond.code ({ cls := "java/lang/String", name := "coder", desc := "()B" } : Jvm.MethodName) jdk_42_method_152_code (1 : Nat) (Option.some Jvm.ClassFile.FieldType.byte)).before args0 about1 = true := code_word (m := ⟨7, 8⟩) (meth := k7m8) (c := k7c8) (by decide +kernel) rfl rfl rfl (by decide +kernel)
set_option maxRecDepth 65536 in
theorem w_c13 : (Jvm.Cond.code ({ cls := "java/lang/AbstractStringBuilder", name := "ensureCapacityInternal", desc := "(I)V" } : Jvm.MethodName) jdk_68_method_9_code (3 : Nat) (Option.none : Option Jvm.ClassFile.FieldType)).before args0 about1 = true := code_word (m := ⟨11, 3⟩) (meth := k11m3) (c := k11c3) (by decide +kernel) rfl rfl rfl (by decide +kernel)
set_option maxRecDepth 65536 in
theorem w_c14 : (Jvm.Cond.code ({ cls := "java/lang/AbstractStringBuilder", name := "putStringAt", desc := "(ILjava/lang/String;)V" } : Jvm.MethodName) jdk_68_method_73_code (3 : Nat) (Option.none : Option Jvm.ClassFile.FieldType)).before args0 about1 = true := code_word (m := ⟨11, 10⟩) (meth := k11m10) (c := k11c10) (by decide +kernel) rfl rfl rfl (by decide +kernel)
set_option maxRecDepth 65536 in
theorem w_c15 : (Jvm.Cond.code ({ cls := "java/lang/AbstractStringBuilder", name := "inflateIfNeededFor", desc := "(Ljava/lang/String;)V" } : Jvm.MethodName) jdk_68_method_71_code (2 : Nat) (Option.none : Option Jvm.ClassFile.FieldType)).before args0 about1 = true := code_word (m := ⟨11, 9⟩) (meth := k11m9) (c := k11c9) (by decide +kernel) rfl rfl rfl (by decide +kernel)
set_option maxRecDepth 65536 in
theorem w_c16 : (Jvm.Cond.code ({ cls := "java/lang/String", name := "getBytes", desc := "([BIB)V" } : Jvm.MethodName) jdk_42_method_147_code (4 : Nat) (Option.none : Option Jvm.ClassFile.FieldType)).before args0 about1 = true := code_word (m := ⟨7, 5⟩) (meth := k7m5) (c := k7c5) (by decide +kernel) rfl rfl rfl (by decide +kernel)
set_option maxRecDepth 65536 in
theorem w_c17 : (Jvm.Cond.code ({ cls := "java/lang/StringBuilder", name := "append", desc := "(I)Ljava/lang/StringBuilder;" } : Jvm.MethodName) jdk_67_method_15_code (2 : Nat) (Option.some (Jvm.ClassFile.FieldType.object "java/lang/StringBuilder"))).before args0 about1 = true := code_word (m := ⟨12, 2⟩) (meth := k12m2) (c := k12c2) (by decide +kernel) rfl rfl rfl (by decide +kernel)
set_option maxRecDepth 65536 in
theorem w_c18 : (Jvm.Cond.code ({ cls := "java/lang/AbstractStringBuilder", name := "append", desc := "(I)Ljava/lang/AbstractStringBuilder;" } : Jvm.MethodName) jdk_68_method_32_code (4 : Nat) (Option.some (Jvm.ClassFile.FieldType.object "java/lang/AbstractStringBuilder"))).before args0 about1 = true := code_word (m := ⟨11, 6⟩) (meth := k11m6) (c := k11c6) (by decide +kernel) rfl rfl rfl (by decide +kernel)
set_option maxRecDepth 65536 in
theorem w_c19 : (Jvm.Cond.code ({ cls := "java/lang/Integer", name := "stringSize", desc := "(I)I" } : Jvm.MethodName) jdk_33_method_13_code (4 : Nat) (Option.some Jvm.ClassFile.FieldType.int)).before args0 about1 = true := code_word (m := ⟨15, 1⟩) (meth := k15m1) (c := k15c1) (by decide +kernel) rfl rfl rfl (by decide +kernel)
set_option maxRecDepth 65536 in
theorem w_c20 : (Jvm.Cond.code ({ cls := "java/lang/AbstractStringBuilder", name := "isLatin1", desc := "()Z" } : Jvm.MethodName) jdk_68_method_68_code (1 : Nat) (Option.some Jvm.ClassFile.FieldType.boolean)).before args0 about1 = true := code_word (m := ⟨11, 8⟩) (meth := k11m8) (c := k11c8) (by decide +kernel) rfl rfl rfl (by decide +kernel)
set_option maxRecDepth 65536 in
theorem w_c21 : (Jvm.Cond.code ({ cls := "java/lang/Integer", name := "getChars", desc := "(II[B)I" } : Jvm.MethodName) jdk_33_method_12_code (7 : Nat) (Option.some Jvm.ClassFile.FieldType.int)).before args0 about1 = true := code_word (m := ⟨15, 0⟩) (meth := k15m0) (c := k15c0) (by decide +kernel) rfl rfl rfl (by decide +kernel)
set_option maxRecDepth 65536 in
theorem w_c22 : (Jvm.Cond.code ({ cls := "java/lang/AbstractStringBuilder", name := "newCapacity", desc := "(I)I" } : Jvm.MethodName) jdk_68_method_10_code (6 : Nat) (Option.some Jvm.ClassFile.FieldType.int)).before args0 about1 = true := code_word (m := ⟨11, 4⟩) (meth := k11m4) (c := k11c4) (by decide +kernel) rfl rfl rfl (by decide +kernel)
set_option maxRecDepth 65536 in
theorem w_c23 : (Jvm.Cond.code ({ cls := "jdk/internal/util/ArraysSupport", name := "newLength", desc := "(III)I" } : Jvm.MethodName) jdk_48_method_27_code (4 : Nat) (Option.some Jvm.ClassFile.FieldType.int)).before args0 about1 = true := code_word (m := ⟨16, 1⟩) (meth := k16m1) (c := k16c1) (by decide +kernel) rfl rfl rfl (by decide +kernel)
set_option maxRecDepth 65536 in
theorem w_c24 : (Jvm.Cond.code ({ cls := "java/lang/Math", name := "max", desc := "(II)I" } : Jvm.MethodName) jdk_29_method_65_code (2 : Nat) (Option.some Jvm.ClassFile.FieldType.int)).before args0 about1 = true := code_word (m := ⟨17, 1⟩) (meth := k17m1) (c := k17c1) (by decide +kernel) rfl rfl rfl (by decide +kernel)
set_option maxRecDepth 65536 in
theorem w_c25 : (Jvm.Cond.code ({ cls := "java/util/Arrays", name := "copyOf", desc := "([BI)[B" } : Jvm.MethodName) jdk_65_method_121_code (3 : Nat) (Option.some (Jvm.ClassFile.FieldType.array Jvm.ClassFile.FieldType.byte))).before args0 about1 = true := code_word (m := ⟨18, 1⟩) (meth := k18m1) (c := k18c1) (by decide +kernel) rfl rfl rfl (by decide +kernel)
set_option maxRecDepth 65536 in
theorem w_c26 : (Jvm.Cond.code ({ cls := "java/lang/Math", name := "min", desc := "(II)I" } : Jvm.MethodName) jdk_29_method_69_code (2 : Nat) (Option.some Jvm.ClassFile.FieldType.int)).before args0 about1 = true := code_word (m := ⟨17, 2⟩) (meth := k17m2) (c := k17c2) (by decide +kernel) rfl rfl rfl (by decide +kernel)
set_option maxRecDepth 65536 in
theorem w_c27 : (Jvm.Cond.code ({ cls := "java/lang/StringBuilder", name := "toString", desc := "()Ljava/lang/String;" } : Jvm.MethodName) jdk_67_method_42_code (1 : Nat) (Option.some (Jvm.ClassFile.FieldType.object "java/lang/String"))).before args0 about1 = true := code_word (m := ⟨12, 3⟩) (meth := k12m3) (c := k12c3) (by decide +kernel) rfl rfl rfl (by decide +kernel)
set_option maxRecDepth 65536 in
theorem w_c28 : (Jvm.Cond.code ({ cls := "java/lang/String", name := "<init>", desc := "(Ljava/lang/StringBuilder;)V" } : Jvm.MethodName) jdk_42_method_53_code (2 : Nat) (Option.none : Option Jvm.ClassFile.FieldType)).before args0 about1 = true := code_word (m := ⟨7, 2⟩) (meth := k7m2) (c := k7c2) (by decide +kernel) rfl rfl rfl (by decide +kernel)
set_option maxRecDepth 65536 in
theorem w_c29 : (Jvm.Cond.code ({ cls := "java/lang/String", name := "<init>", desc := "(Ljava/lang/AbstractStringBuilder;Ljava/lang/Void;)V" } : Jvm.MethodName) jdk_42_method_150_code (5 : Nat) (Option.none : Option Jvm.ClassFile.FieldType)).before args0 about1 = true := code_word (m := ⟨7, 7⟩) (meth := k7m7) (c := k7c7) (by decide +kernel) rfl rfl rfl (by decide +kernel)
set_option maxRecDepth 65536 in
theorem w_c30 : (Jvm.Cond.code ({ cls := "java/lang/AbstractStringBuilder", name := "getValue", desc := "()[B" } : Jvm.MethodName) jdk_68_method_64_code (1 : Nat) (Option.some (Jvm.ClassFile.FieldType.array Jvm.ClassFile.FieldType.byte))).before args0 about1 = true := code_word (m := ⟨11, 7⟩) (meth := k11m7) (c := k11c7) (by decide +kernel) rfl rfl rfl (by decide +kernel)
set_option maxRecDepth 65536 in
theorem w_c31 : (Jvm.Cond.code ({ cls := "java/lang/StringBuilder", name := "length", desc := "()I" } : Jvm.MethodName) jdk_67_method_93_code (1 : Nat) (Option.some Jvm.ClassFile.FieldType.int)).before args0 about1 = true := code_word (m := ⟨12, 4⟩) (meth := k12m4) (c := k12c4) (by decide +kernel) rfl rfl rfl (by decide +kernel)
set_option maxRecDepth 65536 in
theorem w_c32 : (Jvm.Cond.code ({ cls := "java/lang/AbstractStringBuilder", name := "length", desc := "()I" } : Jvm.MethodName) jdk_68_method_6_code (1 : Nat) (Option.some Jvm.ClassFile.FieldType.int)).before args0 about1 = true := code_word (m := ⟨11, 2⟩) (meth := k11m2) (c := k11c2) (by decide +kernel) rfl rfl rfl (by decide +kernel)
set_option maxRecDepth 65536 in
theorem w_c33 : (Jvm.Cond.code ({ cls := "java/util/Arrays", name := "copyOfRange", desc := "([BII)[B" } : Jvm.MethodName) jdk_65_method_132_code (3 : Nat) (Option.some (Jvm.ClassFile.FieldType.array Jvm.ClassFile.FieldType.byte))).before args0 about1 = true := code_word (m := ⟨18, 3⟩) (meth := k18m3) (c := k18c3) (by decide +kernel) rfl rfl rfl (by decide +kernel)
set_option maxRecDepth 65536 in
theorem w_c34 : (Jvm.Cond.code ({ cls := "java/util/Arrays", name := "copyOfRangeByte", desc := "([BII)[B" } : Jvm.MethodName) jdk_65_method_133_code (5 : Nat) (Option.some (Jvm.ClassFile.FieldType.array Jvm.ClassFile.FieldType.byte))).before args0 about1 = true := code_word (m := ⟨18, 4⟩) (meth := k18m4) (c := k18c4) (by decide +kernel) rfl rfl rfl (by decide +kernel)
set_option maxRecDepth 65536 in
theorem w_c35 : (Jvm.Cond.code ({ cls := "java/util/Arrays", name := "checkLength", desc := "(II)V" } : Jvm.MethodName) jdk_65_method_131_code (2 : Nat) (Option.none : Option Jvm.ClassFile.FieldType)).before args0 about1 = true := code_word (m := ⟨18, 2⟩) (meth := k18m2) (c := k18c2) (by decide +kernel) rfl rfl rfl (by decide +kernel)
set_option maxRecDepth 65536 in
theorem w_c36 : (Jvm.Cond.code ({ cls := "com/example/wire_to_worker/wiretoworker/broker/QueueNameToStringPinLaw", name := "digits", desc := "(J)I" } : Jvm.MethodName) method_3_code (2 : Nat) (Option.some Jvm.ClassFile.FieldType.int)).before args0 about1 = true := code_word (m := ⟨1, 2⟩) (meth := k1m2) (c := k1c2) (by decide +kernel) rfl rfl rfl (by decide +kernel)
set_option maxRecDepth 65536 in
theorem w_c37 : (Jvm.Cond.code ({ cls := "java/lang/String", name := "charAt", desc := "(I)C" } : Jvm.MethodName) jdk_42_method_56_code (2 : Nat) (Option.some Jvm.ClassFile.FieldType.char)).before args0 about1 = true := code_word (m := ⟨7, 4⟩) (meth := k7m4) (c := k7c4) (by decide +kernel) rfl rfl rfl (by decide +kernel)
set_option maxRecDepth 65536 in
theorem w_c38 : (Jvm.Cond.code ({ cls := "java/lang/String", name := "isLatin1", desc := "()Z" } : Jvm.MethodName) jdk_42_method_154_code (1 : Nat) (Option.some Jvm.ClassFile.FieldType.boolean)).before args0 about1 = true := code_word (m := ⟨7, 9⟩) (meth := k7m9) (c := k7c9) (by decide +kernel) rfl rfl rfl (by decide +kernel)
set_option maxRecDepth 65536 in
theorem w_c39 : (Jvm.Cond.code ({ cls := "java/lang/StringLatin1", name := "charAt", desc := "([BI)C" } : Jvm.MethodName) jdk_43_method_2_code (2 : Nat) (Option.some Jvm.ClassFile.FieldType.char)).before args0 about1 = true := code_word (m := ⟨19, 1⟩) (meth := k19m1) (c := k19c1) (by decide +kernel) rfl rfl rfl (by decide +kernel)
set_option maxRecDepth 65536 in
theorem w_c40 : (Jvm.Cond.code ({ cls := "java/lang/String", name := "checkIndex", desc := "(II)V" } : Jvm.MethodName) jdk_42_method_155_code (2 : Nat) (Option.none : Option Jvm.ClassFile.FieldType)).before args0 about1 = true := code_word (m := ⟨7, 10⟩) (meth := k7m10) (c := k7c10) (by decide +kernel) rfl rfl rfl (by decide +kernel)
set_option maxRecDepth 65536 in
theorem w_c41 : (Jvm.Cond.code ({ cls := "jdk/internal/util/Preconditions", name := "checkIndex", desc := "(IILjava/util/function/BiFunction;)I" } : Jvm.MethodName) jdk_41_method_11_code (3 : Nat) (Option.some Jvm.ClassFile.FieldType.int)).before args0 about1 = true := code_word (m := ⟨20, 1⟩) (meth := k20m1) (c := k20c1) (by decide +kernel) rfl rfl rfl (by decide +kernel)
set_option maxRecDepth 65536 in
theorem w_c42 : (Jvm.Cond.code ({ cls := "com/example/wire_to_worker/wiretoworker/broker/QueueNameToStringPinLaw", name := "digitOk", desc := "(Ljava/lang/String;IIJI)Z" } : Jvm.MethodName) method_4_code (8 : Nat) (Option.some Jvm.ClassFile.FieldType.boolean)).before args0 about1 = true := code_word (m := ⟨1, 3⟩) (meth := k1m3) (c := k1c3) (by decide +kernel) rfl rfl rfl (by decide +kernel)
set_option maxRecDepth 65536 in
theorem w_c43 : (Jvm.Cond.code ({ cls := "com/example/wire_to_worker/wiretoworker/broker/QueueNameToStringPinLaw", name := "pow10", desc := "(I)J" } : Jvm.MethodName) method_2_code (2 : Nat) (Option.some Jvm.ClassFile.FieldType.long)).before args0 about1 = true := code_word (m := ⟨1, 1⟩) (meth := k1m1) (c := k1c1) (by decide +kernel) rfl rfl rfl (by decide +kernel)
set_option maxRecDepth 65536 in
theorem w_c44 : (Jvm.Cond.code ({ cls := "com/example/wire_to_worker/wiretoworker/broker/QueueNameToStringPinLaw", name := "ofTopic", desc := "(Ljava/lang/String;I)Z" } : Jvm.MethodName) method_5_code (2 : Nat) (Option.some Jvm.ClassFile.FieldType.boolean)).before args0 about1 = true := code_word (m := ⟨1, 4⟩) (meth := k1m4) (c := k1c4) (by decide +kernel) rfl rfl rfl (by decide +kernel)
set_option maxRecDepth 65536 in
theorem w_c45 : (Jvm.Cond.code ({ cls := "java/lang/StringUTF16", name := "compress", desc := "([CII)[B" } : Jvm.MethodName) jdk_52_method_16_code (6 : Nat) (Option.some (Jvm.ClassFile.FieldType.array Jvm.ClassFile.FieldType.byte))).before args0 about1 = true := code_word (m := ⟨21, 2⟩) (meth := k21m2) (c := k21c2) (by decide +kernel) rfl rfl rfl (by decide +kernel)
set_option maxRecDepth 65536 in
theorem w_c46 : (Jvm.Cond.code ({ cls := "java/lang/StringUTF16", name := "compress", desc := "([CI[BII)I" } : Jvm.MethodName) jdk_52_method_21_code (7 : Nat) (Option.some Jvm.ClassFile.FieldType.int)).before args0 about1 = true := code_word (m := ⟨21, 3⟩) (meth := k21m3) (c := k21c3) (by decide +kernel) rfl rfl rfl (by decide +kernel)
set_option maxRecDepth 65536 in
theorem w_c47 : (Jvm.Cond.code ({ cls := "java/lang/StringUTF16", name := "coderFromArrayLen", desc := "([BI)B" } : Jvm.MethodName) jdk_52_method_15_code (2 : Nat) (Option.some Jvm.ClassFile.FieldType.byte)).before args0 about1 = true := code_word (m := ⟨21, 1⟩) (meth := k21m1) (c := k21c1) (by decide +kernel) rfl rfl rfl (by decide +kernel)
def codes1 : List Jvm.Cond := [Jvm.Cond.code x code maxLocals ret, Jvm.Cond.code ({ cls := "java/lang/String", name := "<init>", desc := "([C)V" } : Jvm.MethodName) jdk_42_method_3_code (2 : Nat) (Option.none : Option Jvm.ClassFile.FieldType), Jvm.Cond.code ({ cls := "java/lang/String", name := "<init>", desc := "([CIILjava/lang/Void;)V" } : Jvm.MethodName) jdk_42_method_149_code (6 : Nat) (Option.none : Option Jvm.ClassFile.FieldType), Jvm.Cond.code ({ cls := "java/lang/Object", name := "<init>", desc := "()V" } : Jvm.MethodName) object_method_1_code (1 : Nat) (Option.none : Option Jvm.ClassFile.FieldType), Jvm.Cond.code ({ cls := "com/example/wire_to_worker/wiretoworker/broker/QueueName", name := "<init>", desc := "(Ljava/lang/String;I)V" } : Jvm.MethodName) prog_5_method_1_code (3 : Nat) (Option.none : Option Jvm.ClassFile.FieldType), Jvm.Cond.code ({ cls := "java/lang/Record", name := "<init>", desc := "()V" } : Jvm.MethodName) jdk_30_method_1_code (1 : Nat) (Option.none : Option Jvm.ClassFile.FieldType), Jvm.Cond.code ({ cls := "com/example/wire_to_worker/wiretoworker/broker/QueueName", name := "toString", desc := "()Ljava/lang/String;" } : Jvm.MethodName) prog_5_method_2_code (1 : Nat) (Option.some (Jvm.ClassFile.FieldType.object "java/lang/String")), Jvm.Cond.code ({ cls := "java/lang/StringBuilder", name := "<init>", desc := "()V" } : Jvm.MethodName) jdk_67_method_1_code (1 : Nat) (Option.none : Option Jvm.ClassFile.FieldType), Jvm.Cond.code ({ cls := "java/lang/AbstractStringBuilder", name := "<init>", desc := "(I)V" } : Jvm.MethodName) jdk_68_method_2_code (2 : Nat) (Option.none : Option Jvm.ClassFile.FieldType), Jvm.Cond.code ({ cls := "java/lang/StringBuilder", name := "append", desc := "(Ljava/lang/String;)Ljava/lang/StringBuilder;" } : Jvm.MethodName) jdk_67_method_7_code (2 : Nat) (Option.some (Jvm.ClassFile.FieldType.object "java/lang/StringBuilder")), Jvm.Cond.code ({ cls := "java/lang/AbstractStringBuilder", name := "append", desc := "(Ljava/lang/String;)Ljava/lang/AbstractStringBuilder;" } : Jvm.MethodName) jdk_68_method_22_code (3 : Nat) (Option.some (Jvm.ClassFile.FieldType.object "java/lang/AbstractStringBuilder")), Jvm.Cond.code ({ cls := "java/lang/String", name := "length", desc := "()I" } : Jvm.MethodName) jdk_42_method_54_code (1 : Nat) (Option.some Jvm.ClassFile.FieldType.int), Jvm.Cond.code ({ cls := "java/lang/String", name := "coder", desc := "()B" } : Jvm.MethodName) jdk_42_method_152_code (1 : Nat) (Option.some Jvm.ClassFile.FieldType.byte), Jvm.Cond.code ({ cls := "java/lang/AbstractStringBuilder", name := "ensureCapacityInternal", desc := "(I)V" } : Jvm.MethodName) jdk_68_method_9_code (3 : Nat) (Option.none : Option Jvm.ClassFile.FieldType), Jvm.Cond.code ({ cls := "java/lang/AbstractStringBuilder", name := "putStringAt", desc := "(ILjava/lang/String;)V" } : Jvm.MethodName) jdk_68_method_73_code (3 : Nat) (Option.none : Option Jvm.ClassFile.FieldType), Jvm.Cond.code ({ cls := "java/lang/AbstractStringBuilder", name := "inflateIfNeededFor", desc := "(Ljava/lang/String;)V" } : Jvm.MethodName) jdk_68_method_71_code (2 : Nat) (Option.none : Option Jvm.ClassFile.FieldType), Jvm.Cond.code ({ cls := "java/lang/String", name := "getBytes", desc := "([BIB)V" } : Jvm.MethodName) jdk_42_method_147_code (4 : Nat) (Option.none : Option Jvm.ClassFile.FieldType), Jvm.Cond.code ({ cls := "java/lang/StringBuilder", name := "append", desc := "(I)Ljava/lang/StringBuilder;" } : Jvm.MethodName) jdk_67_method_15_code (2 : Nat) (Option.some (Jvm.ClassFile.FieldType.object "java/lang/StringBuilder")), Jvm.Cond.code ({ cls := "java/lang/AbstractStringBuilder", name := "append", desc := "(I)Ljava/lang/AbstractStringBuilder;" } : Jvm.MethodName) jdk_68_method_32_code (4 : Nat) (Option.some (Jvm.ClassFile.FieldType.object "java/lang/AbstractStringBuilder")), Jvm.Cond.code ({ cls := "java/lang/Integer", name := "stringSize", desc := "(I)I" } : Jvm.MethodName) jdk_33_method_13_code (4 : Nat) (Option.some Jvm.ClassFile.FieldType.int), Jvm.Cond.code ({ cls := "java/lang/AbstractStringBuilder", name := "isLatin1", desc := "()Z" } : Jvm.MethodName) jdk_68_method_68_code (1 : Nat) (Option.some Jvm.ClassFile.FieldType.boolean), Jvm.Cond.code ({ cls := "java/lang/Integer", name := "getChars", desc := "(II[B)I" } : Jvm.MethodName) jdk_33_method_12_code (7 : Nat) (Option.some Jvm.ClassFile.FieldType.int), Jvm.Cond.code ({ cls := "java/lang/AbstractStringBuilder", name := "newCapacity", desc := "(I)I" } : Jvm.MethodName) jdk_68_method_10_code (6 : Nat) (Option.some Jvm.ClassFile.FieldType.int), Jvm.Cond.code ({ cls := "jdk/internal/util/ArraysSupport", name := "newLength", desc := "(III)I" } : Jvm.MethodName) jdk_48_method_27_code (4 : Nat) (Option.some Jvm.ClassFile.FieldType.int), Jvm.Cond.code ({ cls := "java/lang/Math", name := "max", desc := "(II)I" } : Jvm.MethodName) jdk_29_method_65_code (2 : Nat) (Option.some Jvm.ClassFile.FieldType.int), Jvm.Cond.code ({ cls := "java/util/Arrays", name := "copyOf", desc := "([BI)[B" } : Jvm.MethodName) jdk_65_method_121_code (3 : Nat) (Option.some (Jvm.ClassFile.FieldType.array Jvm.ClassFile.FieldType.byte)), Jvm.Cond.code ({ cls := "java/lang/Math", name := "min", desc := "(II)I" } : Jvm.MethodName) jdk_29_method_69_code (2 : Nat) (Option.some Jvm.ClassFile.FieldType.int), Jvm.Cond.code ({ cls := "java/lang/StringBuilder", name := "toString", desc := "()Ljava/lang/String;" } : Jvm.MethodName) jdk_67_method_42_code (1 : Nat) (Option.some (Jvm.ClassFile.FieldType.object "java/lang/String")), Jvm.Cond.code ({ cls := "java/lang/String", name := "<init>", desc := "(Ljava/lang/StringBuilder;)V" } : Jvm.MethodName) jdk_42_method_53_code (2 : Nat) (Option.none : Option Jvm.ClassFile.FieldType), Jvm.Cond.code ({ cls := "java/lang/String", name := "<init>", desc := "(Ljava/lang/AbstractStringBuilder;Ljava/lang/Void;)V" } : Jvm.MethodName) jdk_42_method_150_code (5 : Nat) (Option.none : Option Jvm.ClassFile.FieldType), Jvm.Cond.code ({ cls := "java/lang/AbstractStringBuilder", name := "getValue", desc := "()[B" } : Jvm.MethodName) jdk_68_method_64_code (1 : Nat) (Option.some (Jvm.ClassFile.FieldType.array Jvm.ClassFile.FieldType.byte)), Jvm.Cond.code ({ cls := "java/lang/StringBuilder", name := "length", desc := "()I" } : Jvm.MethodName) jdk_67_method_93_code (1 : Nat) (Option.some Jvm.ClassFile.FieldType.int), Jvm.Cond.code ({ cls := "java/lang/AbstractStringBuilder", name := "length", desc := "()I" } : Jvm.MethodName) jdk_68_method_6_code (1 : Nat) (Option.some Jvm.ClassFile.FieldType.int), Jvm.Cond.code ({ cls := "java/util/Arrays", name := "copyOfRange", desc := "([BII)[B" } : Jvm.MethodName) jdk_65_method_132_code (3 : Nat) (Option.some (Jvm.ClassFile.FieldType.array Jvm.ClassFile.FieldType.byte)), Jvm.Cond.code ({ cls := "java/util/Arrays", name := "copyOfRangeByte", desc := "([BII)[B" } : Jvm.MethodName) jdk_65_method_133_code (5 : Nat) (Option.some (Jvm.ClassFile.FieldType.array Jvm.ClassFile.FieldType.byte)), Jvm.Cond.code ({ cls := "java/util/Arrays", name := "checkLength", desc := "(II)V" } : Jvm.MethodName) jdk_65_method_131_code (2 : Nat) (Option.none : Option Jvm.ClassFile.FieldType), Jvm.Cond.code ({ cls := "com/example/wire_to_worker/wiretoworker/broker/QueueNameToStringPinLaw", name := "digits", desc := "(J)I" } : Jvm.MethodName) method_3_code (2 : Nat) (Option.some Jvm.ClassFile.FieldType.int), Jvm.Cond.code ({ cls := "java/lang/String", name := "charAt", desc := "(I)C" } : Jvm.MethodName) jdk_42_method_56_code (2 : Nat) (Option.some Jvm.ClassFile.FieldType.char), Jvm.Cond.code ({ cls := "java/lang/String", name := "isLatin1", desc := "()Z" } : Jvm.MethodName) jdk_42_method_154_code (1 : Nat) (Option.some Jvm.ClassFile.FieldType.boolean), Jvm.Cond.code ({ cls := "java/lang/StringLatin1", name := "charAt", desc := "([BI)C" } : Jvm.MethodName) jdk_43_method_2_code (2 : Nat) (Option.some Jvm.ClassFile.FieldType.char), Jvm.Cond.code ({ cls := "java/lang/String", name := "checkIndex", desc := "(II)V" } : Jvm.MethodName) jdk_42_method_155_code (2 : Nat) (Option.none : Option Jvm.ClassFile.FieldType), Jvm.Cond.code ({ cls := "jdk/internal/util/Preconditions", name := "checkIndex", desc := "(IILjava/util/function/BiFunction;)I" } : Jvm.MethodName) jdk_41_method_11_code (3 : Nat) (Option.some Jvm.ClassFile.FieldType.int), Jvm.Cond.code ({ cls := "com/example/wire_to_worker/wiretoworker/broker/QueueNameToStringPinLaw", name := "digitOk", desc := "(Ljava/lang/String;IIJI)Z" } : Jvm.MethodName) method_4_code (8 : Nat) (Option.some Jvm.ClassFile.FieldType.boolean), Jvm.Cond.code ({ cls := "com/example/wire_to_worker/wiretoworker/broker/QueueNameToStringPinLaw", name := "pow10", desc := "(I)J" } : Jvm.MethodName) method_2_code (2 : Nat) (Option.some Jvm.ClassFile.FieldType.long), Jvm.Cond.code ({ cls := "com/example/wire_to_worker/wiretoworker/broker/QueueNameToStringPinLaw", name := "ofTopic", desc := "(Ljava/lang/String;I)Z" } : Jvm.MethodName) method_5_code (2 : Nat) (Option.some Jvm.ClassFile.FieldType.boolean), Jvm.Cond.code ({ cls := "java/lang/StringUTF16", name := "compress", desc := "([CII)[B" } : Jvm.MethodName) jdk_52_method_16_code (6 : Nat) (Option.some (Jvm.ClassFile.FieldType.array Jvm.ClassFile.FieldType.byte)), Jvm.Cond.code ({ cls := "java/lang/StringUTF16", name := "compress", desc := "([CI[BII)I" } : Jvm.MethodName) jdk_52_method_21_code (7 : Nat) (Option.some Jvm.ClassFile.FieldType.int), Jvm.Cond.code ({ cls := "java/lang/StringUTF16", name := "coderFromArrayLen", desc := "([BI)B" } : Jvm.MethodName) jdk_52_method_15_code (2 : Nat) (Option.some Jvm.ClassFile.FieldType.byte)]
set_option maxRecDepth 65536 in
theorem codes_eq : words1.filter isCode = codes1 := rfl
theorem w_codes : ∀ c ∈ words1.filter isCode, c.before args0 about1 = true := by
  rw [codes_eq]
  intro c hc
  simp only [codes1, List.mem_cons, List.not_mem_nil, or_false] at hc
  rcases hc with rfl | rfl | rfl | rfl | rfl | rfl | rfl | rfl | rfl | rfl | rfl | rfl | rfl | rfl | rfl | rfl | rfl | rfl | rfl | rfl | rfl | rfl | rfl | rfl | rfl | rfl | rfl | rfl | rfl | rfl | rfl | rfl | rfl | rfl | rfl | rfl | rfl | rfl | rfl | rfl | rfl | rfl | rfl | rfl | rfl | rfl | rfl | rfl
  · exact w_c0
  · exact w_c1
  · exact w_c2
  · exact w_c3
  · exact w_c4
  · exact w_c5
  · exact w_c6
  · exact w_c7
  · exact w_c8
  · exact w_c9
  · exact w_c10
  · exact w_c11
  · exact w_c12
  · exact w_c13
  · exact w_c14
  · exact w_c15
  · exact w_c16
  · exact w_c17
  · exact w_c18
  · exact w_c19
  · exact w_c20
  · exact w_c21
  · exact w_c22
  · exact w_c23
  · exact w_c24
  · exact w_c25
  · exact w_c26
  · exact w_c27
  · exact w_c28
  · exact w_c29
  · exact w_c30
  · exact w_c31
  · exact w_c32
  · exact w_c33
  · exact w_c34
  · exact w_c35
  · exact w_c36
  · exact w_c37
  · exact w_c38
  · exact w_c39
  · exact w_c40
  · exact w_c41
  · exact w_c42
  · exact w_c43
  · exact w_c44
  · exact w_c45
  · exact w_c46
  · exact w_c47
set_option maxRecDepth 65536 in
theorem w_t1 : (words1.take 24).all (fun c => isCode c || c.before args0 about1) = true := by decide +kernel
set_option maxRecDepth 65536 in
theorem w_t2 : ((words1.drop 24).take 24).all (fun c => isCode c || c.before args0 about1) = true := by decide +kernel
set_option maxRecDepth 65536 in
theorem w_t3 : (((words1.drop 24).drop 24).take 24).all (fun c => isCode c || c.before args0 about1) = true := by decide +kernel
set_option maxRecDepth 65536 in
theorem w_t4 : ((((words1.drop 24).drop 24).drop 24).take 24).all (fun c => isCode c || c.before args0 about1) = true := by decide +kernel
set_option maxRecDepth 65536 in
theorem w_t5 : (((((words1.drop 24).drop 24).drop 24).drop 24).take 24).all (fun c => isCode c || c.before args0 about1) = true := by decide +kernel
set_option maxRecDepth 65536 in
theorem w_t6 : ((((((words1.drop 24).drop 24).drop 24).drop 24).drop 24).take 24).all (fun c => isCode c || c.before args0 about1) = true := by decide +kernel
set_option maxRecDepth 65536 in
theorem w_t7 : (((((((words1.drop 24).drop 24).drop 24).drop 24).drop 24).drop 24).take 24).all (fun c => isCode c || c.before args0 about1) = true := by decide +kernel
set_option maxRecDepth 65536 in
theorem w_t8 : ((((((((words1.drop 24).drop 24).drop 24).drop 24).drop 24).drop 24).drop 24).take 24).all (fun c => isCode c || c.before args0 about1) = true := by decide +kernel
set_option maxRecDepth 65536 in
theorem w_t9 : (((((((((words1.drop 24).drop 24).drop 24).drop 24).drop 24).drop 24).drop 24).drop 24).take 24).all (fun c => isCode c || c.before args0 about1) = true := by decide +kernel
set_option maxRecDepth 65536 in
theorem w_t10 : ((((((((((words1.drop 24).drop 24).drop 24).drop 24).drop 24).drop 24).drop 24).drop 24).drop 24).take 24).all (fun c => isCode c || c.before args0 about1) = true := by decide +kernel
set_option maxRecDepth 65536 in
theorem w_t11 : ((((((((((words1.drop 24).drop 24).drop 24).drop 24).drop 24).drop 24).drop 24).drop 24).drop 24).drop 24).all (fun c => isCode c || c.before args0 about1) = true := by decide +kernel
theorem w_tables : (allAtoms (Jvm.Cond.code x code maxLocals ret :: tables_1)).before args0 about1 = true := by
  rw [allAtoms_all]
  show words1.all (fun c => c.before args0 about1) = true
  refine all_split ?_ w_codes
  rw [← List.take_append_drop 24 words1, List.all_append, w_t1, ← List.take_append_drop 24 (words1.drop 24), List.all_append, w_t2, ← List.take_append_drop 24 ((words1.drop 24).drop 24), List.all_append, w_t3, ← List.take_append_drop 24 (((words1.drop 24).drop 24).drop 24), List.all_append, w_t4, ← List.take_append_drop 24 ((((words1.drop 24).drop 24).drop 24).drop 24), List.all_append, w_t5, ← List.take_append_drop 24 (((((words1.drop 24).drop 24).drop 24).drop 24).drop 24), List.all_append, w_t6, ← List.take_append_drop 24 ((((((words1.drop 24).drop 24).drop 24).drop 24).drop 24).drop 24), List.all_append, w_t7, ← List.take_append_drop 24 (((((((words1.drop 24).drop 24).drop 24).drop 24).drop 24).drop 24).drop 24), List.all_append, w_t8, ← List.take_append_drop 24 ((((((((words1.drop 24).drop 24).drop 24).drop 24).drop 24).drop 24).drop 24).drop 24), List.all_append, w_t9, ← List.take_append_drop 24 (((((((((words1.drop 24).drop 24).drop 24).drop 24).drop 24).drop 24).drop 24).drop 24).drop 24), List.all_append, w_t10, w_t11]
  rfl
set_option maxRecDepth 65536 in
theorem w_rest : rest_1_c.before args0 about1 = true := by decide +kernel
set_option maxRecDepth 65536 in
theorem w_case : (Jvm.Cond.and given_1 narrow_1).before args0 about1 = true := by decide +kernel
set_option maxRecDepth 65536 in
theorem w_consts : constsHeld consts_1 about1 := Jvm.Lit.constsHeldB_iff.mp (by decide +kernel)
theorem w_applies : (headSpec (Jvm.Cond.code x code maxLocals ret :: tables_1) room_1).applies x e0.platform about1 = true :=
  (Spec.applies_iff w_frames).mpr ⟨w_running, w_runnable, w_alone, w_named, w_hears, w_ripe, w_room, w_tables⟩
theorem atStart : AtStart classFile x code maxLocals ret World_1 tables_1 room_1 Calls_1 rest_1 Pre_1 launch0 p0 e0 about1 theMethod args0 below0 :=
  ⟨lists_1, trivial, launch0.admits_env _ _ _, launch0.least_env, fairChoices_fair.cas, fairChoices_fair.clock, w_frames, w_args, w_heap, w_applies, ⟨w_consts, trivial⟩, w_rest, w_case⟩
end start1
theorem witness_1 : WitnessClaimed_1 := ⟨start1.p0, start1.e0, start1.about1, start1.theMethod, start1.args0, start1.below0, start1.atStart⟩
end Jvm.Pilot.@@N@@
