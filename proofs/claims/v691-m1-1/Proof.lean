import JvmDerived
import JvmDerived.Pilot.@@N@@Statement
import JvmDerived.Pilot.@@N@@Code
set_option linter.unusedVariables false
set_option linter.unusedSimpArgs false

namespace Jvm.Pilot.@@N@@
open Jvm Jvm.ClassFile Sem Op Lib Jvm.Free Jvm.Stand Jvm.LawKit Jvm.RoadKit Bundle Jvm.Pilot.@@N@@.Jvm.D
theorem ow {Z : State} {a0 : Array Value} (hw : ∀ d ∈ tables_1, d.before a0 Z = true) (i : Nat) {d : Jvm.Cond} (h : tables_1[i]? = some d) : d.before a0 Z = true := hw _ (List.mem_of_getElem? h)
theorem own_irr {x : Int32} : ¬ x < x := fun h => Int.lt_irrefl _ (Int32.lt_iff_toInt_lt.mp h)
theorem own_neA {Z : State} {h : Heap} {a b : Addr} {k k' : ClassId} {ty ty' : FieldType} {z z' : Int32} {vs vs' : List Value} {d d' : Value} (A : Arv Z h a k ty z vs d) (B : Arv Z h b k' ty' z' vs' d') (hn : ty ≠ ty') : a ≠ b := fun q => by
  subst q
  obtain ⟨c1, ⟨e1, hA, -⟩, -⟩ := A
  obtain ⟨c2, ⟨e2, hB, -⟩, -⟩ := B
  cases e1.symm.trans e2
  obtain ⟨-, k1, g1, comp, hk⟩ := hA
  obtain ⟨-, k2, g2, comp', hk'⟩ := hB
  cases g1.symm.trans g2
  rw [hk] at hk'
  injection hk' with h1 h2
  exact hn h2
section Own
variable {p : Program} {l : Launch} {e : Env} {R : Room} {s : State} {m : MethodId} {args : Array Value} {below : List Frame} {meth : Method} {c : Code} {T : State} {locs : List Loc} {cells slots : Nat} {Z : State} {a0 : Array Value} {h : Heap} {vm0 : Vm} {EL : List (String × Nat)}
/-! own layer: contracts in CPS form. G is the goal at a state; go takes steps backwards, fin ends the walk. -/
def own_MetN (l : Launch) (Z : State) (y : MethodName) (bytes : ByteArray) (maxL : Nat) (ret : Option FieldType) (ws : List Jvm.Cond) (rm : Room) (as' : Array Value) (h0 : Heap) (Q : Option Value → Heap → List Loc → Prop) : Prop :=
  MetFree l y (head1 (Jvm.Cond.code y bytes maxL ret :: ws) rm) (fun a U => a = as' ∧ Z.Warmed39 U.vm ∧ U.heap = h0) (fun _ _ _ _ _ => True) (fun _ U o U' => ∃ v L, o = .returned v ∧ Q v U'.heap L ∧ FrameEnd U o U' L rm.cells rm.slots)
def own_MetH (l : Launch) (Z : State) (EL : List (String × Nat)) (y : MethodName) (bytes : ByteArray) (maxL : Nat) (ret : Option FieldType) (ws : List Jvm.Cond) (rm : Room) (as' : Array Value) (h0 : Heap) (Q : Option Value → Heap → List Loc → Prop) : Prop :=
  MetFree l y (head1 (Jvm.Cond.code y bytes maxL ret :: ws) rm) (fun a U => a = as' ∧ Z.Warmed39 U.vm ∧ U.heap = h0 ∧ CHv Z EL U.vm h0) (fun _ _ _ _ _ => True) (fun _ U o U' => ∃ v L, o = .returned v ∧ Q v U'.heap L ∧ CHr Z EL U.vm U.heap U'.vm U'.heap ∧ ReturnedEndW U o U' L rm.cells rm.slots)
def own_Go (p : Program) (e : Env) (below : List Frame) (G : State → Prop) : Prop := ∀ A B, (∀ t, Steps p.tables e below B t → Steps p.tables e below A t) → G B → G A
def own_Ret (p : Program) (e : Env) (below : List Frame) (m : MethodId) (T : State) (v : Option Value) (g : JFrame) : Prop :=
  ∀ fs, (∀ (f : JFrame) (acts : List Action), f.method = m → f.locked = none → f.entered = [] → (doReturn e (T.setTop f) acts v).1 = T.setFrames fs) → Steps p.tables e below (T.setTop g) (T.setFrames fs)
theorem own_metN {y : MethodName} {bytes : ByteArray} {maxL : Nat} {ret : Option FieldType} {ws : List Jvm.Cond} {rm : Room} {as' : Array Value} {h0 : Heap} {Q : Option Value → Heap → List Loc → Prop} (pn : plainFor y = true)
    (K : ∀ (p : Program) (e : Env) (s : State) (m : MethodId) (below : List Frame) (meth : Method) (c : Code) (s₁ : State) (G : State → Prop), p.tables.exec = Jvm.exec → c.code = bytes → c.maxLocals = maxL → Z.Warmed39 s.vm → s.vm.findClass y.cls = some m.cls → meth.name = y.name → meth.sig.returnType = ret →
      Stand p l e rm s m as' below meth c s₁ [] 0 0 → s₁.heap = h0 → own_Go p e below G →
      (∀ (T : State) (L : List Loc) (cells slots : Nat) (v : Option Value), Stand p l e rm s m as' below meth c T L cells slots → (ret = none → v = none) → cells ≤ rm.cells → slots ≤ rm.slots → Q v T.heap L → ∀ g : JFrame, own_Ret p e below m T v g → G (T.setTop g)) →
      G (s₁.setTop (entryFrame m as' maxL))) :
    own_MetN l Z y bytes maxL ret ws rm as' h0 Q := by
  refine MetFree.of_bodySF pn hisR ?_
  intro p e s m args below meth c s₁ Bd hml0 hP hK
  obtain ⟨rfl, hZ, hh⟩ := hP
  refine K p e s m below meth c s₁ (fun A => ∃ s₂ o, Steps p.tables e below A s₂ ∧ s₂.status = .running ∧ Ended s₂ below o ∧ ∃ v L, o = .returned v ∧ Q v s₂.heap L ∧ FrameEnd s o s₂ L rm.cells rm.slots) Bd.exec Bd.bytes hml0 hZ (findClass_of_methodNamed Bd.named) (name_of_methodNamed Bd.named Bd.method).1 Bd.returns (Stand.of_body Bd) (by rw [← hh, Bd.state]; rfl) ?_ ?_
  · rintro A B st ⟨s₂, o, h1, h2⟩; exact ⟨s₂, o, st _ h1, h2⟩
  · intro T L cells slots v X hv hc hs hq g hg
    obtain ⟨fs, hr, hrun, hended, hW, hsame⟩ := X.leave (v := v) (fun q => hv (Bd.returns.symm.trans q))
    exact ⟨_, _, hg fs hr, hrun, hended, _, _, rfl, hq, ⟨_, rfl⟩, hW, hsame.mono hc hs⟩
theorem own_metH {y : MethodName} {bytes : ByteArray} {maxL : Nat} {ret : Option FieldType} {ws : List Jvm.Cond} {rm : Room} {as' : Array Value} {h0 : Heap} {Q : Option Value → Heap → List Loc → Prop} (pn : plainFor y = true) (hEL : EW Z a0 EL)
    (K : ∀ (p : Program) (e : Env) (s : State) (m : MethodId) (below : List Frame) (meth : Method) (c : Code) (s₁ : State) (G : State → Prop), p.tables.exec = Jvm.exec → c.code = bytes → c.maxLocals = maxL → Z.Warmed39 s.vm → s.vm.findClass y.cls = some m.cls → meth.name = y.name → meth.sig.returnType = ret →
      Stand p l e rm (s.setVm s.vm) m as' below meth c s₁ [] 0 0 → s₁.heap = h0 → s.Since s.vm h0.size → CHr Z EL s.vm h0 s.vm h0 → own_Go p e below G →
      (∀ (T : State) (L : List Loc) (cells slots : Nat) (v : Option Value) (vm0 : Vm) (k0 : Nat), Stand p l e rm (s.setVm vm0) m as' below meth c T L cells slots → Z.Warmed39 vm0 → s.Since vm0 k0 → k0 ≤ T.heap.size → CHr Z EL s.vm h0 vm0 T.heap → (ret = none → v = none) → cells ≤ rm.cells → slots ≤ rm.slots → Q v T.heap L → ∀ g : JFrame, own_Ret p e below m T v g → G (T.setTop g)) →
      G (s₁.setTop (entryFrame m as' maxL))) :
    own_MetH l Z EL y bytes maxL ret ws rm as' h0 Q := by
  refine MetFree.of_bodySF pn hisR ?_
  intro p e s m args below meth c s₁ Bd hml0 hP hK
  obtain ⟨rfl, hZ, hh, hC⟩ := hP
  refine K p e s m below meth c s₁ (fun A => ∃ s₂ o, Steps p.tables e below A s₂ ∧ s₂.status = .running ∧ Ended s₂ below o ∧ ∃ v L, o = .returned v ∧ Q v s₂.heap L ∧ CHr Z EL s.vm s.heap s₂.vm s₂.heap ∧ ReturnedEndW s o s₂ L rm.cells rm.slots) Bd.exec Bd.bytes hml0 hZ (findClass_of_methodNamed Bd.named) (name_of_methodNamed Bd.named Bd.method).1 Bd.returns (Stand.of_body Bd) (by rw [← hh, Bd.state]; rfl) ((State.WarmedH.refl s).since _) (CHr.refl hC) ?_ ?_
  · rintro A B st ⟨s₂, o, h1, h2⟩; exact ⟨s₂, o, st _ h1, h2⟩
  · intro T L cells slots v vm0 k0 X hZ0 hS hk hR hv hc hs hq g hg
    obtain ⟨fs, hr, hrun, hended, e1, e2, e3, e4⟩ := X.leaveW (v := v) hS hk (fun q => hv (Bd.returns.symm.trans q))
    refine ⟨_, _, hg fs hr, hrun, hended, _, _, rfl, hq, ?_, e1, e2, e3, e4.mono hc hs⟩
    rw [hh]
    show CHr Z EL s.vm h0 T.vm T.heap
    exact hR.trans (CHv.at X hZ0 hEL hR.1)
theorem own_nfS {y y' z' : MethodName} {C' : String} {as' : Array Value} (hc : z'.cls = y.cls) (ws : (Jvm.Cond.selects C' y' z').before as' s = true) : NotFace s y := fun r0 h0 => by
  obtain ⟨c2, r2, m2, -, -, q3, -, kP, hkP, hkPi⟩ := Cond.selects_spec ws
  have f1 := findClass_of_methodNamed h0
  have f2 := findClass_of_methodNamed q3
  rw [hc] at f2
  have e : m2.cls = r0.cls := Option.some.inj (f2.symm.trans f1)
  rw [e] at hkP
  exact ⟨kP, hkP, hkPi⟩
/-! calls: the callee's law in backOf's shape pays -/
theorem own_bkN {y : MethodName} {bytes : ByteArray} {maxL : Nat} {ret : Option FieldType} {rm : Room} {len W : Nat} {as' : Array Value} {Q : Option Value → Heap → List Loc → Prop} (hM : own_MetN l Z y bytes maxL ret [] rm as' h Q)
    (hZ : Z.Warmed39 s.vm) (wc : (Jvm.Cond.code y bytes maxL ret).before a0 Z = true) (wz : (Jvm.Cond.initialized y.cls).before a0 Z = true) (hf : rm.frames + 1 ≤ R.frames) (hl : W + (maxL + 11) + rm.locals ≤ R.locals) :
    Back l R p e below s args y len W (fun A a => a = as' ∧ A.U.heap = h ∧ A.cells + rm.cells ≤ R.cells ∧ A.slots + rm.slots ≤ R.slots) (fun A _ v B => ∃ L, Q v B.U.heap L ∧ B.locs = A.locs ++ L ∧ B.cells = A.cells + rm.cells ∧ B.slots = A.slots + rm.slots) :=
  backOf (Q := Q) hM hZ wc wz hf hl
theorem own_bkH {y : MethodName} {bytes : ByteArray} {maxL : Nat} {ret : Option FieldType} {rm : Room} {len W : Nat} {as' : Array Value} {Q : Option Value → Heap → List Loc → Prop} (hM : own_MetH l Z EL y bytes maxL ret [] rm as' h Q)
    (hZ : Z.Warmed39 vm0) (wc : (Jvm.Cond.code y bytes maxL ret).before a0 Z = true) (wz : (Jvm.Cond.initialized y.cls).before a0 Z = true) (hf : rm.frames + 1 ≤ R.frames) (hl : W + (maxL + 11) + rm.locals ≤ R.locals) (hEL : EW Z a0 EL) (H : CHv Z EL vm0 h) :
    BackS l R p e below (s.setVm vm0) args y len W (fun A a => a = as' ∧ A.U.heap = h ∧ A.cells + rm.cells ≤ R.cells ∧ A.slots + rm.slots ≤ R.slots) (fun A _ v B => ∃ L, Q v B.U.heap L ∧ B.locs = A.locs ++ L ∧ B.cells = A.cells + rm.cells ∧ B.slots = A.slots + rm.slots ∧ CHr Z EL vm0 h B.U.vm B.U.heap) :=
  backOfSH (Q := Q) hM hZ wc wz hf hl hEL H
theorem own_st (X : Stand p l e R s m args below meth c T locs cells slots) (hx : p.tables.exec = Jvm.exec) (hZ : Z.Warmed39 s.vm) {own : String} {index : Nat} {y : MethodName} {bytes : ByteArray} {maxL : Nat} {ret : Option FieldType}
    (hown : s.vm.findClass own = some m.cls) (w1 : (Jvm.Cond.methodLink own index y).before a0 Z = true) (w2 : (Jvm.Cond.static y).before a0 Z = true) (w3 : (Jvm.Cond.initialized y.cls).before a0 Z = true) (w4 : (Jvm.Cond.code y bytes maxL ret).before a0 Z = true)
    (hy : y.cls ≠ "java/lang/invoke/MethodHandle" ∧ y.cls ≠ "java/lang/invoke/VarHandle") {W kc ks : Nat} {as' : Array Value} {Q : Option Value → Heap → List Loc → Prop}
    (hK : Back l R p e below s args y 3 W (fun A a => a = as' ∧ A.U.heap = h ∧ A.cells + kc ≤ R.cells ∧ A.slots + ks ≤ R.slots) (fun A _ v B => ∃ L, Q v B.U.heap L ∧ B.locs = A.locs ++ L ∧ B.cells = A.cells + kc ∧ B.slots = A.slots + ks))
    (eT : T.heap = h) {g : JFrame} (hg : g.method = m) (hsize : g.locals.size = c.maxLocals) {argsL rest : List Value} (ha : argsL.toArray = as') (hlen : ∀ sig, parseMethodDescriptor y.desc = some sig → argsL.length = sig.parameters.length)
    (hstack : g.stack = argsL.reverse ++ rest) (hW : 2 * g.monitorRoom + (rest.map fun v => v.category).sum ≤ W) (hdg : decode c.code g.pc = .ok (.invokestatic index, 3)) (hc : cells + kc ≤ R.cells) (hs : slots + ks ≤ R.slots) :
    ∃ (v : Option Value) (T' : State) (L : List Loc), Stand p l e R s m args below meth c T' (locs ++ L) (cells + kc) (slots + ks) ∧ Q v T'.heap L ∧ ∀ t, Steps p.tables e below (T'.setTop { g with pc := g.pc + 3, stack := v.toList ++ rest }) t → Steps p.tables e below (T.setTop g) t := by
  obtain ⟨v, vm₁, ⟨T', L', k', n'⟩, -, X', ⟨L, hq, hl, hk, hn⟩, st⟩ := Jvm.LawKit.callS X hx hown (mvT hZ w1) (mvT hZ w2) (mvT hZ w3) (mvT hZ w4) hy hK hg hsize hlen hstack hW hdg (fun _ _ => ⟨ha, eT, hc, hs⟩)
  dsimp only [Pt.U, Pt.locs, Pt.cells, Pt.slots] at X' hq hl hk hn st
  subst hl hk hn
  exact ⟨v, T', L, X', hq, st⟩
theorem own_sp (X : Stand p l e R s m args below meth c T locs cells slots) (hx : p.tables.exec = Jvm.exec) (hZ : Z.Warmed39 s.vm) {own : String} {index : Nat} {y : MethodName} {bytes : ByteArray} {maxL : Nat} (hy1 : y.name = "<init>")
    (hown : s.vm.findClass own = some m.cls) (w1 : (Jvm.Cond.methodLink own index y).before a0 Z = true) (w2 : (Jvm.Cond.instanceMethod y).before a0 Z = true) (w4 : (Jvm.Cond.code y bytes maxL none).before a0 Z = true)
    (hy : y.cls ≠ "java/lang/invoke/MethodHandle" ∧ y.cls ≠ "java/lang/invoke/VarHandle") {W kc ks : Nat} {as' : Array Value} {Q : Option Value → Heap → List Loc → Prop}
    (hK : Back l R p e below s args y 3 W (fun A a => a = as' ∧ A.U.heap = h ∧ A.cells + kc ≤ R.cells ∧ A.slots + ks ≤ R.slots) (fun A _ v B => ∃ L, Q v B.U.heap L ∧ B.locs = A.locs ++ L ∧ B.cells = A.cells + kc ∧ B.slots = A.slots + ks))
    (eT : T.heap = h) {g : JFrame} (hg : g.method = m) (hsize : g.locals.size = c.maxLocals) {a : Addr} {argsL rest : List Value} (ha : (.ref a :: argsL).toArray = as') (hlen : ∀ sig, parseMethodDescriptor y.desc = some sig → argsL.length = sig.parameters.length)
    (hstack : g.stack = argsL.reverse ++ .ref a :: rest) (hW : 2 * g.monitorRoom + (rest.map fun v => v.category).sum ≤ W) (hdg : decode c.code g.pc = .ok (.invokespecial index, 3)) (hc : cells + kc ≤ R.cells) (hs : slots + ks ≤ R.slots) :
    ∃ (v : Option Value) (T' : State) (L : List Loc), Stand p l e R s m args below meth c T' (locs ++ L) (cells + kc) (slots + ks) ∧ Q v T'.heap L ∧ ∀ t, Steps p.tables e below (T'.setTop { g with pc := g.pc + 3, stack := v.toList ++ rest }) t → Steps p.tables e below (T.setTop g) t := by
  obtain ⟨v, vm₁, ⟨T', L', k', n'⟩, -, X', ⟨L, hq, hl, hk, hn⟩, st⟩ := X.specialBack hx hy1 hown (mvT hZ w1) (mvT hZ w2) (mvT hZ w4) hy hK hg hsize (Steps.refl _) hlen hstack hW hdg (fun _ _ => ⟨ha, eT, hc, hs⟩)
  dsimp only [Pt.U, Pt.locs, Pt.cells, Pt.slots] at X' hq hl hk hn st
  subst hl hk hn
  exact ⟨v, T', L, X', hq, fun _ k => st.trans k⟩
theorem own_vi (X : Stand p l e R s m args below meth c T locs cells slots) (hx : p.tables.exec = Jvm.exec) (hZ : Z.Warmed39 s.vm) {own C : String} {index : Nat} {y z : MethodName}
    (hown : s.vm.findClass own = some m.cls) (w1 : (Jvm.Cond.methodLink own index y).before a0 Z = true) (w2 : (Jvm.Cond.declares y).before a0 Z = true) (w3 : (Jvm.Cond.selects C y z).before a0 Z = true) (w4 : (Jvm.Cond.instanceMethod z).before a0 Z = true) (hn : z = y ∨ (∃ S, (Jvm.Cond.superclass y.cls S).before a0 Z = true) ∨ (Jvm.Cond.noSuperclass y.cls).before a0 Z = true ∨ ∃ C' y' z', z'.cls = y.cls ∧ (Jvm.Cond.selects C' y' z').before a0 Z = true)
    (hy : y.cls ≠ "java/lang/invoke/MethodHandle" ∧ y.cls ≠ "java/lang/invoke/VarHandle") {W kc ks : Nat} {as' : Array Value} {Q : Option Value → Heap → List Loc → Prop}
    (hK : Back l R p e below s args z 3 W (fun A a => a = as' ∧ A.U.heap = h ∧ A.cells + kc ≤ R.cells ∧ A.slots + ks ≤ R.slots) (fun A _ v B => ∃ L, Q v B.U.heap L ∧ B.locs = A.locs ++ L ∧ B.cells = A.cells + kc ∧ B.slots = A.slots + ks))
    (eT : T.heap = h) {b : Addr} (E : Exa Z h b C) {g : JFrame} (hg : g.method = m) (hsize : g.locals.size = c.maxLocals) {argsL rest : List Value} (ha : (.ref b :: argsL).toArray = as') (hlen : ∀ sig, parseMethodDescriptor y.desc = some sig → argsL.length = sig.parameters.length)
    (hstack : g.stack = argsL.reverse ++ .ref b :: rest) (hW : 2 * g.monitorRoom + (rest.map fun v => v.category).sum ≤ W) (hdg : decode c.code g.pc = .ok (.invokevirtual index, 3)) (hc : cells + kc ≤ R.cells) (hs : slots + ks ≤ R.slots) :
    ∃ (v : Option Value) (T' : State) (L : List Loc), Stand p l e R s m args below meth c T' (locs ++ L) (cells + kc) (slots + ks) ∧ Q v T'.heap L ∧ ∀ t, Steps p.tables e below (T'.setTop { g with pc := g.pc + 3, stack := v.toList ++ rest }) t → Steps p.tables e below (T.setTop g) t := by
  have hnf : NotFace s y := by
    rcases hn with rfl | ⟨S, w⟩ | w | ⟨C', y', z', hc, w⟩
    · exact notFace_of_selects (args := #[]) (mvT hZ w3)
    · exact nf_super (args := #[]) (mvT hZ w)
    · exact nf_top (args := #[]) (mvT hZ w)
    · exact own_nfS hc (mvT (args := #[]) hZ w)
  obtain ⟨cq, kq, qa, qb, qc⟩ := isOf hZ eT E
  obtain ⟨v, vm₁, ⟨T', L', k', n'⟩, -, X', ⟨L, hq, hl, hk, hn⟩, st⟩ := X.virtualBack hx (y := y) (z := z) hown (mvT hZ w1) (mvT hZ w2) hnf (mvT hZ w3) (mvT hZ w4) hy hK qa qc hg hsize (Steps.refl _) hlen hstack hW hdg (fun _ _ => ⟨ha, eT, hc, hs⟩)
  dsimp only [Pt.U, Pt.locs, Pt.cells, Pt.slots] at X' hq hl hk hn st
  subst hl hk hn
  exact ⟨v, T', L, X', hq, fun _ k => st.trans k⟩
/-! .. of a callee that may load String constants: the walk goes on over the tables at hand -/
theorem own_stW (X : Stand p l e R (s.setVm vm0) m args below meth c T locs cells slots) (hx : p.tables.exec = Jvm.exec) (hZ : Z.Warmed39 vm0) {own : String} {index : Nat} {y : MethodName} {bytes : ByteArray} {maxL : Nat} {ret : Option FieldType}
    (hown : vm0.findClass own = some m.cls) (w1 : (Jvm.Cond.methodLink own index y).before a0 Z = true) (w2 : (Jvm.Cond.static y).before a0 Z = true) (w3 : (Jvm.Cond.initialized y.cls).before a0 Z = true) (w4 : (Jvm.Cond.code y bytes maxL ret).before a0 Z = true)
    (hy : y.cls ≠ "java/lang/invoke/MethodHandle" ∧ y.cls ≠ "java/lang/invoke/VarHandle") {W kc ks : Nat} {as' : Array Value} {Q : Option Value → Heap → List Loc → Prop}
    (hK : BackS l R p e below (s.setVm vm0) args y 3 W (fun A a => a = as' ∧ A.U.heap = h ∧ A.cells + kc ≤ R.cells ∧ A.slots + ks ≤ R.slots) (fun A _ v B => ∃ L, Q v B.U.heap L ∧ B.locs = A.locs ++ L ∧ B.cells = A.cells + kc ∧ B.slots = A.slots + ks ∧ CHr Z EL vm0 h B.U.vm B.U.heap))
    (eT : T.heap = h) {k0 : Nat} (hS : s.Since vm0 k0) (hk0 : k0 ≤ h.size) {g : JFrame} (hg : g.method = m) (hsize : g.locals.size = c.maxLocals) {argsL rest : List Value} (ha : argsL.toArray = as') (hlen : ∀ sig, parseMethodDescriptor y.desc = some sig → argsL.length = sig.parameters.length)
    (hstack : g.stack = argsL.reverse ++ rest) (hW : 2 * g.monitorRoom + (rest.map fun v => v.category).sum ≤ W) (hdg : decode c.code g.pc = .ok (.invokestatic index, 3)) (hc : cells + kc ≤ R.cells) (hs : slots + ks ≤ R.slots) :
    ∃ (v : Option Value) (T' : State) (L : List Loc), Stand p l e R (s.setVm T'.vm) m args below meth c T' (locs ++ L) (cells + kc) (slots + ks) ∧ Q v T'.heap L ∧ Z.Warmed39 T'.vm ∧ T'.vm.findClass own = some m.cls ∧ s.Since T'.vm T'.heap.size ∧ CHr Z EL vm0 h T'.vm T'.heap ∧ ∀ t, Steps p.tables e below (T'.setTop { g with pc := g.pc + 3, stack := v.toList ++ rest }) t → Steps p.tables e below (T.setTop g) t := by
  have hZ' : Z.Warmed39 (s.setVm vm0).vm := hZ
  obtain ⟨v, vm₁, ⟨T', L', k', n'⟩, -, X', hS', hg', ⟨L, hq, hl, hk, hn, hC⟩, st⟩ := callSS X hx (own := own) (index := index) hown (mvT hZ' w1) (mvT hZ' w2) (mvT hZ' w3) (mvT hZ' w4) hy hK hg hsize hlen hstack hW hdg (fun _ _ => ⟨ha, eT, hc, hs⟩)
  dsimp only [Pt.U, Pt.locs, Pt.cells, Pt.slots] at X' hS' hg' hq hl hk hn hC st
  subst hl hk hn eT
  obtain ⟨Y, hS2, hZ2, hown2⟩ := rebS hS hk0 X' hS' hg' hZ' hown
  exact ⟨v, T', L, Y, hq, hZ2, hown2, hS2, hC, fun _ k => st.trans k⟩
theorem own_spW (X : Stand p l e R (s.setVm vm0) m args below meth c T locs cells slots) (hx : p.tables.exec = Jvm.exec) (hZ : Z.Warmed39 vm0) {own : String} {index : Nat} {y : MethodName} {bytes : ByteArray} {maxL : Nat} (hy1 : y.name = "<init>")
    (hown : vm0.findClass own = some m.cls) (w1 : (Jvm.Cond.methodLink own index y).before a0 Z = true) (w2 : (Jvm.Cond.instanceMethod y).before a0 Z = true) (w4 : (Jvm.Cond.code y bytes maxL none).before a0 Z = true)
    (hy : y.cls ≠ "java/lang/invoke/MethodHandle" ∧ y.cls ≠ "java/lang/invoke/VarHandle") {W kc ks : Nat} {as' : Array Value} {Q : Option Value → Heap → List Loc → Prop}
    (hK : BackS l R p e below (s.setVm vm0) args y 3 W (fun A a => a = as' ∧ A.U.heap = h ∧ A.cells + kc ≤ R.cells ∧ A.slots + ks ≤ R.slots) (fun A _ v B => ∃ L, Q v B.U.heap L ∧ B.locs = A.locs ++ L ∧ B.cells = A.cells + kc ∧ B.slots = A.slots + ks ∧ CHr Z EL vm0 h B.U.vm B.U.heap))
    (eT : T.heap = h) {k0 : Nat} (hS : s.Since vm0 k0) (hk0 : k0 ≤ h.size) {g : JFrame} (hg : g.method = m) (hsize : g.locals.size = c.maxLocals) {a : Addr} {argsL rest : List Value} (ha : (.ref a :: argsL).toArray = as') (hlen : ∀ sig, parseMethodDescriptor y.desc = some sig → argsL.length = sig.parameters.length)
    (hstack : g.stack = argsL.reverse ++ .ref a :: rest) (hW : 2 * g.monitorRoom + (rest.map fun v => v.category).sum ≤ W) (hdg : decode c.code g.pc = .ok (.invokespecial index, 3)) (hc : cells + kc ≤ R.cells) (hs : slots + ks ≤ R.slots) :
    ∃ (v : Option Value) (T' : State) (L : List Loc), Stand p l e R (s.setVm T'.vm) m args below meth c T' (locs ++ L) (cells + kc) (slots + ks) ∧ Q v T'.heap L ∧ Z.Warmed39 T'.vm ∧ T'.vm.findClass own = some m.cls ∧ s.Since T'.vm T'.heap.size ∧ CHr Z EL vm0 h T'.vm T'.heap ∧ ∀ t, Steps p.tables e below (T'.setTop { g with pc := g.pc + 3, stack := v.toList ++ rest }) t → Steps p.tables e below (T.setTop g) t := by
  have hZ' : Z.Warmed39 (s.setVm vm0).vm := hZ
  obtain ⟨v, vm₁, ⟨T', L', k', n'⟩, -, X', hS', hg', ⟨L, hq, hl, hk, hn, hC⟩, st⟩ := X.specialBackS hx hy1 (own := own) (index := index) hown (mvT hZ' w1) (mvT hZ' w2) (mvT hZ' w4) hy hK hg hsize (Steps.refl _) hlen hstack hW hdg (fun _ _ => ⟨ha, eT, hc, hs⟩)
  dsimp only [Pt.U, Pt.locs, Pt.cells, Pt.slots] at X' hS' hg' hq hl hk hn hC st
  subst hl hk hn eT
  obtain ⟨Y, hS2, hZ2, hown2⟩ := rebS hS hk0 X' hS' hg' hZ' hown
  exact ⟨v, T', L, Y, hq, hZ2, hown2, hS2, hC, fun _ k => st.trans k⟩
theorem own_viW (X : Stand p l e R (s.setVm vm0) m args below meth c T locs cells slots) (hx : p.tables.exec = Jvm.exec) (hZ : Z.Warmed39 vm0) {own C : String} {index : Nat} {y z : MethodName}
    (hown : vm0.findClass own = some m.cls) (w1 : (Jvm.Cond.methodLink own index y).before a0 Z = true) (w2 : (Jvm.Cond.declares y).before a0 Z = true) (w3 : (Jvm.Cond.selects C y z).before a0 Z = true) (w4 : (Jvm.Cond.instanceMethod z).before a0 Z = true) (hn : z = y ∨ (∃ S, (Jvm.Cond.superclass y.cls S).before a0 Z = true) ∨ (Jvm.Cond.noSuperclass y.cls).before a0 Z = true ∨ ∃ C' y' z', z'.cls = y.cls ∧ (Jvm.Cond.selects C' y' z').before a0 Z = true)
    (hy : y.cls ≠ "java/lang/invoke/MethodHandle" ∧ y.cls ≠ "java/lang/invoke/VarHandle") {W kc ks : Nat} {as' : Array Value} {Q : Option Value → Heap → List Loc → Prop}
    (hK : BackS l R p e below (s.setVm vm0) args z 3 W (fun A a => a = as' ∧ A.U.heap = h ∧ A.cells + kc ≤ R.cells ∧ A.slots + ks ≤ R.slots) (fun A _ v B => ∃ L, Q v B.U.heap L ∧ B.locs = A.locs ++ L ∧ B.cells = A.cells + kc ∧ B.slots = A.slots + ks ∧ CHr Z EL vm0 h B.U.vm B.U.heap))
    (eT : T.heap = h) {k0 : Nat} (hS : s.Since vm0 k0) (hk0 : k0 ≤ h.size) {b : Addr} (E : Exa Z h b C) {g : JFrame} (hg : g.method = m) (hsize : g.locals.size = c.maxLocals) {argsL rest : List Value} (ha : (.ref b :: argsL).toArray = as') (hlen : ∀ sig, parseMethodDescriptor y.desc = some sig → argsL.length = sig.parameters.length)
    (hstack : g.stack = argsL.reverse ++ .ref b :: rest) (hW : 2 * g.monitorRoom + (rest.map fun v => v.category).sum ≤ W) (hdg : decode c.code g.pc = .ok (.invokevirtual index, 3)) (hc : cells + kc ≤ R.cells) (hs : slots + ks ≤ R.slots) :
    ∃ (v : Option Value) (T' : State) (L : List Loc), Stand p l e R (s.setVm T'.vm) m args below meth c T' (locs ++ L) (cells + kc) (slots + ks) ∧ Q v T'.heap L ∧ Z.Warmed39 T'.vm ∧ T'.vm.findClass own = some m.cls ∧ s.Since T'.vm T'.heap.size ∧ CHr Z EL vm0 h T'.vm T'.heap ∧ ∀ t, Steps p.tables e below (T'.setTop { g with pc := g.pc + 3, stack := v.toList ++ rest }) t → Steps p.tables e below (T.setTop g) t := by
  have hZ' : Z.Warmed39 (s.setVm vm0).vm := hZ
  have hnf : NotFace (s.setVm vm0) y := by
    rcases hn with rfl | ⟨S, w⟩ | w | ⟨C', y', z', hc, w⟩
    · exact notFace_of_selects (args := #[]) (mvT hZ' w3)
    · exact nf_super (args := #[]) (mvT hZ' w)
    · exact nf_top (args := #[]) (mvT hZ' w)
    · exact own_nfS hc (mvT (args := #[]) hZ' w)
  obtain ⟨cq, kq, qa, qb, qc⟩ := isOf hZ' eT E
  obtain ⟨v, vm₁, ⟨T', L', k', n'⟩, -, X', hS', hg', ⟨L, hq, hl, hk, hn, hC⟩, st⟩ := X.virtualBackS hx (y := y) (z := z) (own := own) (index := index) hown (mvT hZ' w1) (mvT hZ' w2) hnf (mvT hZ' w3) (mvT hZ' w4) hy hK qa qc hg hsize (Steps.refl _) hlen hstack hW hdg (fun _ _ => ⟨ha, eT, hc, hs⟩)
  dsimp only [Pt.U, Pt.locs, Pt.cells, Pt.slots] at X' hS' hg' hq hl hk hn hC st
  subst hl hk hn eT
  obtain ⟨Y, hS2, hZ2, hown2⟩ := rebS hS hk0 X' hS' hg' hZ' hown
  exact ⟨v, T', L, Y, hq, hZ2, hown2, hS2, hC, fun _ k => st.trans k⟩
theorem own_catR {a : Addr} : (Value.ref a).category = 1 := rfl
theorem own_catI {a : Int32} : (Value.int a).category = 1 := rfl
theorem own_catN : Value.null.category = 1 := rfl
theorem own_catJ {a : Int64} : (Value.long a).category = 2 := rfl
theorem own_cat {v : Value} (hv : v.isRef = true) : v.category = 1 := by rcases ref_cases hv with rfl | ⟨a, rfl⟩ <;> rfl
theorem own_narR {v : Value} {C : String} : narrow (.object C) v = v := by cases v <;> rfl
theorem own_fitR {v : Value} {C : String} (hv : v.isRef = true) : fits (.object C) v = true := by rcases ref_cases hv with rfl | ⟨a, rfl⟩ <;> rfl
theorem own_retA (X : Stand p l e R s m args below meth c T locs cells slots) (hx : p.tables.exec = Jvm.exec) {pc : Nat} {Ls : Array Slot} {w : Value} {t : FieldType} {rest : List Value} (hret : meth.sig.returnType = some t) (ht : t.isReference = true) (hw : w.isRef = true) (hn : narrow t w = w) (hd : decode c.code pc = .ok (.areturn, 1)) :
    own_Ret p e below m T (some w) (mkF m pc Ls (w :: rest)) := fun _ hl => retOut X hx hret hn (Or.inr (Or.inr (Or.inr (Or.inr ⟨rfl, ht, hw⟩)))) hd hl
theorem own_retI (X : Stand p l e R s m args below meth c T locs cells slots) (hx : p.tables.exec = Jvm.exec) {pc : Nat} {Ls : Array Slot} {z : Int32} {rest : List Value} (hret : meth.sig.returnType = some .int) (hd : decode c.code pc = .ok (.ireturn, 1)) :
    own_Ret p e below m T (some (.int z)) (mkF m pc Ls (.int z :: rest)) := fun _ hl => retOut X hx hret rfl (Or.inl ⟨rfl, Or.inl rfl, z, rfl⟩) hd hl
theorem own_retN (X : Stand p l e R s m args below meth c T locs cells slots) (hx : p.tables.exec = Jvm.exec) {pc : Nat} {Ls : Array Slot} {z : Int32} {t : FieldType} {rest : List Value} (hret : meth.sig.returnType = some t) (ht : t = .boolean ∨ t = .byte ∨ t = .char ∨ t = .short) (hd : decode c.code pc = .ok (.ireturn, 1)) :
    own_Ret p e below m T (some (.int (nar t z))) (mkF m pc Ls (.int z :: rest)) := fun _ hl => retN X hx hret ht hd hl
theorem own_retV (X : Stand p l e R s m args below meth c T locs cells slots) (hx : p.tables.exec = Jvm.exec) {pc : Nat} {Ls : Array Slot} (hret : meth.sig.returnType = none) (hd : decode c.code pc = .ok (.return_, 1)) :
    own_Ret p e below m T none (mkF m pc Ls []) := fun _ hl => X.returnOut hx hret hd hl
theorem own_in (X : Stand p l e R s m args below meth c T locs cells slots) (hx : p.tables.exec = Jvm.exec) (hZ : Z.Warmed39 s.vm) {own C : String} {index count : Nat} {xi y : MethodName}
    (hown : s.vm.findClass own = some m.cls) (w1 : (Jvm.Cond.methodLink own index xi).before a0 Z = true) (w2 : (Jvm.Cond.declares xi).before a0 Z = true) (w3 : (Jvm.Cond.interfaceMethod xi.cls xi.cls xi.name xi.desc).before a0 Z = true) (w4 : (Jvm.Cond.selects C xi y).before a0 Z = true) (w5 : (Jvm.Cond.instanceMethod y).before a0 Z = true)
    (w6 : (Jvm.Cond.publicMethod y).before a0 Z = true) (w7 : (Jvm.Cond.unhidden C xi.name xi.desc).before a0 Z = true) (w8 : (Jvm.Cond.castable C xi.cls).before a0 Z = true)
    (hy : xi.cls ≠ "java/lang/invoke/MethodHandle" ∧ xi.cls ≠ "java/lang/invoke/VarHandle") {W kc ks : Nat} {as' : Array Value} {Q : Option Value → Heap → List Loc → Prop}
    (hK : Back l R p e below s args y 5 W (fun A a => a = as' ∧ A.U.heap = h ∧ A.cells + kc ≤ R.cells ∧ A.slots + ks ≤ R.slots) (fun A _ v B => ∃ L, Q v B.U.heap L ∧ B.locs = A.locs ++ L ∧ B.cells = A.cells + kc ∧ B.slots = A.slots + ks))
    (eT : T.heap = h) {b : Addr} (E : Exa Z h b C) {g : JFrame} (hg : g.method = m) (hsize : g.locals.size = c.maxLocals) {argsL rest : List Value} (ha : (.ref b :: argsL).toArray = as') (hlen : ∀ sig, parseMethodDescriptor xi.desc = some sig → argsL.length = sig.parameters.length)
    (hstack : g.stack = argsL.reverse ++ .ref b :: rest) (hW : 2 * g.monitorRoom + (rest.map fun v => v.category).sum ≤ W) (hdg : decode c.code g.pc = .ok (.invokeinterface index count, 5)) (hc : cells + kc ≤ R.cells) (hs : slots + ks ≤ R.slots) :
    ∃ (v : Option Value) (T' : State) (L : List Loc), Stand p l e R s m args below meth c T' (locs ++ L) (cells + kc) (slots + ks) ∧ Q v T'.heap L ∧ ∀ t, Steps p.tables e below (T'.setTop { g with pc := g.pc + 5, stack := v.toList ++ rest }) t → Steps p.tables e below (T.setTop g) t := by
  obtain ⟨cq, kq, qa, qb, qc⟩ := isOf hZ eT E
  obtain ⟨v, vm₁, ⟨T', L', k', n'⟩, -, X', ⟨L, hq, hl, hk, hn⟩, st⟩ := X.interfaceBack hx (xi := xi) (y := y) hown (mvT hZ w1) (mvT hZ w2) (mvT hZ w3 (by simp [Cond.onTables, Cond.keepsFace, Cond.keeps, Cond.steady, Cond.faceAtom, hy.1, hy.2])) (mvT hZ w4) (mvT hZ w5) (mvT hZ w6) (mvT hZ w7) (mvT hZ w8) hy hK qa qb qc hg hsize (Steps.refl _) hlen hstack hW hdg (fun _ _ => ⟨ha, eT, hc, hs⟩)
  dsimp only [Pt.U, Pt.locs, Pt.cells, Pt.slots] at X' hq hl hk hn st
  subst hl hk hn
  exact ⟨v, T', L, X', hq, fun _ k => st.trans k⟩
/-- instanceof, whatever it says -/
theorem own_inst (X : Stand p l e R s m args below meth c T locs cells slots) (hx : p.tables.exec = Jvm.exec) (hZ : Z.Warmed39 s.vm) {own K C : String} {index : Nat} (hown : s.vm.findClass own = some m.cls) (w : (Jvm.Cond.classLink own index K).before a0 Z = true) (eT : T.heap = h) {a : Addr} (E : Exa Z h a C)
    {g : JFrame} (hg : g.method = m) {rest : List Value} (hs : g.stack = .ref a :: rest) (hd : decode c.code g.pc = .ok (.instanceof index, 3)) :
    ∃ (z : Int32) (T' : State), (z = 0 ∨ z = 1) ∧ Stand p l e R s m args below meth c T' locs cells slots ∧ T'.heap = h ∧ ∀ t, Steps p.tables e below (T'.setTop { g with pc := g.pc + 3, stack := .int z :: rest }) t → Steps p.tables e below (T.setTop g) t := by
  obtain ⟨cell, k, e1, e2, e3, e4, e5⟩ := E
  have w' : (Jvm.Cond.classLink own index K).before args s = true := mv hZ w
  have hpl : e.platform.magicAccessors = ({} : Platform).magicAccessors := by rw [X.admits.platform]
  obtain ⟨cT, hcT, -⟩ := Cond.classLink_spec hown w' e.platform hpl
  obtain ⟨k', q, -⟩ := hZ.alike.2.2 _ _ e3
  cases hb : s.vm.assignable cell.cls cT with
  | true =>
    obtain ⟨vm', X', st⟩ := X.instanceofYes hx hown w' (by rw [eT]; exact e1) e4 hcT hb hg hs hd
    exact ⟨1, _, Or.inr rfl, X', eT, st⟩
  | false =>
    obtain ⟨T', X', e', st⟩ := instNo X hx hZ hown w eT (C := C) ⟨cell, k, e1, e2, e3, e4, e5⟩ ⟨cell.cls, cT, e2, by rw [← hZ.alike.findClass]; exact hcT, by rw [← hZ.alike.assignable]; exact hb⟩ hg hs hd
    exact ⟨0, _, Or.inl rfl, X', e', st⟩
/-- a class that isn't among the superclasses and is no interface (the word instantiable says so) -/
theorem own_NSroot {O K : String} {n : Nat} (w : (Jvm.Cond.noSuperclass O).before a0 Z = true) (wk : (Jvm.Cond.instantiable K n).before a0 Z = true) (hn : O ≠ K) : NS Z O K := by
  obtain ⟨c, k, h1, h2, h3, -, -⟩ := Cond.noSuperclass_spec w
  obtain ⟨t, kt, g1, -⟩ := Cond.instantiable_spec wk
  have ne := ids_ne h1 g1 hn
  refine ⟨c, t, h1, g1, fun fuel => ?_⟩
  cases fuel with
  | zero => rfl
  | succ f => simp [Vm.isSubclassAux, ne, h2, h3]
theorem own_NSno {C S K : String} {n : Nat} (w : (Jvm.Cond.superclass C S).before a0 Z = true) (wk : (Jvm.Cond.instantiable K n).before a0 Z = true) (q : NS Z C K) (hn : C ≠ K) : ∃ c t, Z.vm.findClass C = some c ∧ Z.vm.findClass K = some t ∧ Z.vm.assignable c t = false := by
  obtain ⟨c, t, h0, g0, n3⟩ := q
  obtain ⟨p, k, kp, h1, h2, h3, h4, h5, -, h7⟩ := Cond.superclass_spec h0 w
  obtain ⟨t', kt, g1, g2, g3, g4, -⟩ := Cond.instantiable_spec wk
  cases g0.symm.trans g1
  have g5 : kt.isInterface = false := by simp only [Bool.or_eq_false_iff] at g4; exact g4.1
  have ne := ids_ne h0 g0 hn
  refine ⟨c, t, h0, g0, ?_⟩
  show Z.vm.assignableAux (255 + 1) c t = false
  simp [Vm.assignableAux, ne, h2, g2, h5, g3, g5, Vm.isSubclass, n3]
theorem own_pr (X : Stand p l e R s m args below meth c T locs cells slots) (hx : p.tables.exec = Jvm.exec) (hZ : Z.Warmed39 s.vm) {own C : String} {index : Nat} {y : MethodName} {bytes : ByteArray} {maxL : Nat} {ret : Option FieldType}
    (hown : s.vm.findClass own = some m.cls) (w1 : (Jvm.Cond.methodLink own index y).before a0 Z = true) (w2 : (Jvm.Cond.instanceMethod y).before a0 Z = true) (w3 : (Jvm.Cond.selects C y y).before a0 Z = true) (w4 : (Jvm.Cond.privateMethod y).before a0 Z = true) (w5 : (Jvm.Cond.code y bytes maxL ret).before a0 Z = true)
    (hy : y.cls ≠ "java/lang/invoke/MethodHandle" ∧ y.cls ≠ "java/lang/invoke/VarHandle") {W kc ks : Nat} {as' : Array Value} {Q : Option Value → Heap → List Loc → Prop}
    (hK : Back l R p e below s args y 3 W (fun A a => a = as' ∧ A.U.heap = h ∧ A.cells + kc ≤ R.cells ∧ A.slots + ks ≤ R.slots) (fun A _ v B => ∃ L, Q v B.U.heap L ∧ B.locs = A.locs ++ L ∧ B.cells = A.cells + kc ∧ B.slots = A.slots + ks))
    (eT : T.heap = h) {b : Addr} {C' : String} (E : Exa Z h b C') {g : JFrame} (hg : g.method = m) (hsize : g.locals.size = c.maxLocals) {argsL rest : List Value} (ha : (.ref b :: argsL).toArray = as') (hlen : ∀ sig, parseMethodDescriptor y.desc = some sig → argsL.length = sig.parameters.length)
    (hstack : g.stack = argsL.reverse ++ .ref b :: rest) (hW : 2 * g.monitorRoom + (rest.map fun v => v.category).sum ≤ W) (hdg : decode c.code g.pc = .ok (.invokevirtual index, 3)) (hc : cells + kc ≤ R.cells) (hs : slots + ks ≤ R.slots) :
    ∃ (v : Option Value) (T' : State) (L : List Loc), Stand p l e R s m args below meth c T' (locs ++ L) (cells + kc) (slots + ks) ∧ Q v T'.heap L ∧ ∀ t, Steps p.tables e below (T'.setTop { g with pc := g.pc + 3, stack := v.toList ++ rest }) t → Steps p.tables e below (T.setTop g) t := by
  obtain ⟨cq, q, q'⟩ := E.cell
  have hpriv : s.PrivateAt y := Cond.privateMethod_at (mvP hZ w4 (args := #[]))
  obtain ⟨mk, methM, hnamed, hmethM, hstM, habM⟩ := Cond.instanceMethod_spec (mvT (args := args) hZ w2)
  obtain ⟨methM', cM, hmethM', -, -, -, -, -, -, hsigM⟩ := Cond.code_spec hnamed (mvT (args := args) hZ w5)
  cases hmethM.symm.trans hmethM'
  obtain ⟨c2, r2, m2, -, -, q3, -, kP, hkP, hkPi⟩ := Cond.selects_spec (mvT (args := args) hZ w3)
  cases hnamed.symm.trans q3
  have hselP : selectMethod e.platform s.vm cq.cls mk = .method mk := selectMethod_private hmethM (hpriv mk methM hnamed hmethM)
  obtain ⟨vm₁, X₁, hstep₁⟩ := X.invokevirtual hx hown (mvT hZ w1) hnamed hmethM hstM hkP hkPi hy (a := b) (cell := cq) (by rw [eT]; exact q) q' hselP hmethM habM hkP hkPi (g := g) hg (argsL := argsL) (rest := rest) (hlen _ hsigM) hstack hdg
  obtain ⟨v, ⟨T', L', k', n'⟩, X', ⟨L, hq, hl, hk, hn⟩, hsteps⟩ := hK m meth c ⟨T.setVm vm₁, locs, cells, slots⟩ { g with stack := rest } (.invokevirtual index) mk (.ref b :: argsL).toArray X₁ hg hsize hdg hW (X₁.named hnamed) ⟨ha, eT, hc, hs⟩
  dsimp only [Pt.U, Pt.locs, Pt.cells, Pt.slots] at X' hq hl hk hn hsteps
  subst hl hk hn
  exact ⟨v, T', L, X', hq, fun _ k => (hstep₁ _ fun acts => by rw [doInvoke_state]; exact Steps.refl _).trans (hsteps.trans k)⟩
theorem own_selfp {y : MethodName} {n : Nat} (w3 : (Jvm.Cond.privateMethod y).before a0 Z = true) (wi : (Jvm.Cond.instanceMethod y).before a0 Z = true) (wk : (Jvm.Cond.instantiable y.cls n).before a0 Z = true) (hy : y.cls ≠ "java/lang/invoke/MethodHandle" ∧ y.cls ≠ "java/lang/invoke/VarHandle") : (Jvm.Cond.selects y.cls y y).before a0 Z = true := by
  obtain ⟨t, kt, g1, g2, g3, g4, -⟩ := Cond.instantiable_spec wk
  have g5 : kt.isInterface = false := by simp only [Bool.or_eq_false_iff] at g4; exact g4.1
  exact selects_self_of_private g1 g2 g5 (Cond.privateMethod_at w3) wi hy
/-- the entry's class has the method itself, and it is no interface: a 'selects' word of another method of that class says so -/
theorem own_same {y y' z : MethodName} {C : String} (hy : y.cls ≠ "java/lang/invoke/MethodHandle" ∧ y.cls ≠ "java/lang/invoke/VarHandle") (hc : z.cls = y.cls) (ws : (Jvm.Cond.selects C y' z).before a0 Z = true) (wi : (Jvm.Cond.instanceMethod y).before a0 Z = true) : (Jvm.Cond.sameMethod y.cls y.cls y.name y.desc).before a0 Z = true := by
  obtain ⟨mk, methM, hnamed, -⟩ := Cond.instanceMethod_spec wi
  obtain ⟨c2, r2, m2, -, -, q3, -, kP, hkP, hkPi⟩ := Cond.selects_spec ws
  have f1 := findClass_of_methodNamed hnamed
  have f2 := findClass_of_methodNamed q3
  rw [hc] at f2
  have e : m2.cls = mk.cls := Option.some.inj (f2.symm.trans f1)
  have f3 : Z.methodFound? y.cls y.name y.desc = some mk := State.methodFound?_of_named hnamed hy
  have f4 : Z.methodNamed? (⟨y.cls, y.name, y.desc⟩ : MethodName) = some mk := hnamed
  rw [e] at hkP
  simp [Cond.before, Cond.holds, Cond.value, f1, f3, f4, hkP, hkPi]
theorem own_su (X : Stand p l e R s m args below meth c T locs cells slots) (hx : p.tables.exec = Jvm.exec) (hZ : Z.Warmed39 s.vm) {own C : String} {index : Nat} {y : MethodName} {bytes : ByteArray} {maxL : Nat} {ret : Option FieldType}
    (hown : s.vm.findClass own = some m.cls) (w1 : (Jvm.Cond.methodLink own index y).before a0 Z = true) (w2 : (Jvm.Cond.sameMethod y.cls y.cls y.name y.desc).before a0 Z = true) (w3 : (Jvm.Cond.instanceMethod y).before a0 Z = true) (w4 : (Jvm.Cond.superclass own y.cls).before a0 Z = true) (hn : y.name ≠ "<init>") (w5 : (Jvm.Cond.code y bytes maxL ret).before a0 Z = true)
    {W kc ks : Nat} {as' : Array Value} {Q : Option Value → Heap → List Loc → Prop}
    (hK : Back l R p e below s args y 3 W (fun A a => a = as' ∧ A.U.heap = h ∧ A.cells + kc ≤ R.cells ∧ A.slots + ks ≤ R.slots) (fun A _ v B => ∃ L, Q v B.U.heap L ∧ B.locs = A.locs ++ L ∧ B.cells = A.cells + kc ∧ B.slots = A.slots + ks))
    (eT : T.heap = h) {b : Addr} (E : Exa Z h b C) {g : JFrame} (hg : g.method = m) (hsize : g.locals.size = c.maxLocals) {argsL rest : List Value} (ha : (.ref b :: argsL).toArray = as') (hlen : ∀ sig, parseMethodDescriptor y.desc = some sig → argsL.length = sig.parameters.length)
    (hstack : g.stack = argsL.reverse ++ .ref b :: rest) (hW : 2 * g.monitorRoom + (rest.map fun v => v.category).sum ≤ W) (hdg : decode c.code g.pc = .ok (.invokespecial index, 3)) (hc : cells + kc ≤ R.cells) (hs : slots + ks ≤ R.slots) :
    ∃ (v : Option Value) (T' : State) (L : List Loc), Stand p l e R s m args below meth c T' (locs ++ L) (cells + kc) (slots + ks) ∧ Q v T'.heap L ∧ ∀ t, Steps p.tables e below (T'.setTop { g with pc := g.pc + 3, stack := v.toList ++ rest }) t → Steps p.tables e below (T.setTop g) t := by
  obtain ⟨v, vm₁, ⟨T', L', k', n'⟩, -, X', ⟨L, hq, hl, hk, hn'⟩, st⟩ := superBack X hx hZ hown w1 w2 w3 w4 hn hK eT (Ins.self E) hg hsize w5 hlen hstack hW hdg (fun _ _ => ⟨ha, eT, hc, hs⟩)
  dsimp only [Pt.U, Pt.locs, Pt.cells, Pt.slots] at X' hq hl hk hn' st
  subst hl hk hn'
  exact ⟨v, T', L, X', hq, fun _ k => st.trans k⟩
end Own

theorem own_l {x y : Int32} (h : x < y) : x.toInt < y.toInt := Int32.lt_iff_toInt_lt.mp h
theorem own_nl {x y : Int32} (h : ¬ x < y) : y.toInt ≤ x.toInt := Int.not_lt.mp fun q => h (Int32.lt_iff_toInt_lt.mpr q)
theorem own_ei {x y : Int32} (h : x = y) : x.toInt = y.toInt := congrArg _ h
theorem own_nei {x y : Int32} (h : ¬ x = y) : ¬ x.toInt = y.toInt := fun q => h (Int32.toInt_inj.mp q)
theorem own_l' {x y : Int32} (h : x.toInt < y.toInt) : x < y := Int32.lt_iff_toInt_lt.mpr h
theorem own_nl' {x y : Int32} (h : y.toInt ≤ x.toInt) : ¬ x < y := fun q => Int.not_lt.mpr h (Int32.lt_iff_toInt_lt.mp q)
theorem own_ei' {x y : Int32} (h : x.toInt = y.toInt) : x = y := Int32.toInt_inj.mp h
theorem own_nei' {x y : Int32} (h : ¬ x.toInt = y.toInt) : ¬ x = y := fun q => h (congrArg _ q)
theorem own_rg (x : Int32) : -2147483648 ≤ x.toInt ∧ x.toInt < 2147483648 := by
  have a := Int32.toInt_lt x
  have b := Int32.le_toInt x
  omega
theorem own_rgx (x : Int32) : -2147483648 ≤ x.toInt ∧ x.toInt < 2147483648 := by
  have a := Int32.toInt_lt x
  have b := Int32.le_toInt x
  omega
def own_k (x : Int32) : Int32 := ((x.toUInt32 >>> ((6 : Int32) &&& 31).toUInt32).toInt32)
def own_b (x : Int32) : Int64 := ((1 : Int64) <<< (x &&& 0x3f).toInt64)
def own_has (w : Int64) (i : Nat) : Prop := w.toBitVec.getLsbD i = true
def own_ix (x : Int32) : Nat := x.toBitVec.toNat % 64
def own_In (ps : List (Int32 × Int64)) (x : Int32) : Prop := ∃ p ∈ ps, p.1 = own_k x ∧ own_has p.2 (own_ix x)
def own_Add (ps qs : List (Int32 × Int64)) (x : Int32) : Prop := ∀ y, own_In qs y ↔ own_In ps y ∨ y = x
def own_Rep (ps : List (Int32 × Int64)) (L : List Int32) : Prop := ∀ y, own_In ps y ↔ y ∈ L
def own_Srt (ps : List (Int32 × Int64)) : Prop := List.Pairwise (fun p q => p.1 < q.1) ps ∧ ∀ p ∈ ps, ∃ y, p.1 = own_k y
def own_Yes (ps qs : List (Int32 × Int64)) : Prop := ∃ p ∈ ps, ∃ q ∈ qs, p.1 = q.1 ∧ ¬ p.2 &&& q.2 = 0
theorem own_k_nat (x : Int32) : (own_k x).toBitVec.toNat = x.toBitVec.toNat / 64 := by
  have e : (own_k x).toBitVec = x.toBitVec >>> 6 := by
    unfold own_k
    simp
  rw [e, BitVec.toNat_ushiftRight, Nat.shiftRight_eq_div_pow]
theorem own_b_bit (x : Int32) (i : Nat) (hi : i < 64) : own_has (own_b x) i ↔ i = own_ix x := by
  have e : (own_b x).toBitVec = 1#64 <<< own_ix x := by
    unfold own_b own_ix
    rw [Int64.toBitVec_shiftLeft]
    have q : ((x &&& (0x3f : Int32)).toInt64.toBitVec.smod 64).toNat = x.toBitVec.toNat % 64 := by
      have h1 := c_mask x 63 6 (by decide) (by decide)
      have h2 : (x &&& (63 : Int32)).toInt64.toInt = (x &&& (63 : Int32)).toInt := Int32.toInt_toInt64 _
      have h3 : x.toInt % (2 ^ 6 : Nat) = ((x.toBitVec.toNat % 64 : Nat) : Int) := by
        have h4 : x.toInt = x.toBitVec.toInt := rfl
        rw [h4, BitVec.toInt_eq_toNat_cond]
        have := x.toBitVec.isLt
        split <;> omega
      have h5 : (x &&& (63 : Int32)).toInt64.toBitVec = BitVec.ofNat 64 (x.toBitVec.toNat % 64) := by
        apply BitVec.eq_of_toInt_eq
        have h6 : (x &&& (63 : Int32)).toInt64.toBitVec.toInt = (x &&& (63 : Int32)).toInt64.toInt := rfl
        have h7 : x.toBitVec.toNat % 64 < 64 := Nat.mod_lt _ (by decide)
        have h8 : (BitVec.ofNat 64 (x.toBitVec.toNat % 64)).toNat = x.toBitVec.toNat % 64 := by rw [BitVec.toNat_ofNat]; exact Nat.mod_eq_of_lt (by omega)
        rw [h6, h2, h1, h3, BitVec.toInt_eq_toNat_of_lt (by rw [h8]; omega), h8]
      show ((x &&& (63 : Int32)).toInt64.toBitVec.smod 64#64).toNat = _
      rw [h5]
      have h7 : x.toBitVec.toNat % 64 < 64 := Nat.mod_lt _ (by decide)
      generalize x.toBitVec.toNat % 64 = n at h7 ⊢
      have : ∀ n : Fin 64, ((BitVec.ofNat 64 n.val).smod 64#64).toNat = n.val := by decide
      exact this ⟨n, h7⟩
    have q2 : ∀ b c : BitVec 64, b <<< c = b <<< c.toNat := fun b c => by rfl
    rw [q2, q]
    rfl
  unfold own_has
  rw [e, BitVec.getLsbD_shiftLeft]
  simp only [hi, decide_true, Bool.true_and, Bool.and_eq_true, Bool.not_eq_true', decide_eq_false_iff_not, BitVec.getLsbD_one]
  constructor
  · rintro ⟨h1, h2⟩
    have := of_decide_eq_true h2.2
    omega
  · intro h
    subst h
    exact ⟨by omega, by simp⟩
theorem own_ix_lt (x : Int32) : own_ix x < 64 := Nat.mod_lt _ (by decide)
theorem own_kb {x y : Int32} (h1 : own_k x = own_k y) (h2 : own_ix x = own_ix y) : x = y := by
  have a := own_k_nat x
  have b := own_k_nat y
  rw [h1] at a
  unfold own_ix at h2
  apply Int32.toBitVec_inj.mp
  apply BitVec.eq_of_toNat_eq
  omega
theorem own_or_bit (u v : Int64) (i : Nat) : own_has (u ||| v) i ↔ own_has u i ∨ own_has v i := by
  unfold own_has
  rw [Int64.toBitVec_or, BitVec.getLsbD_or, Bool.or_eq_true]
theorem own_and_bit (u v : Int64) : ¬ u &&& v = 0 ↔ ∃ i, i < 64 ∧ own_has u i ∧ own_has v i := by
  unfold own_has
  constructor
  · intro h
    apply Classical.byContradiction
    intro q
    apply h
    apply Int64.toBitVec_inj.mp
    apply BitVec.eq_of_getLsbD_eq
    intro i hi
    rw [Int64.toBitVec_and, BitVec.getLsbD_and]
    have z : (0 : Int64).toBitVec.getLsbD i = false := by simp
    rw [z]
    cases e1 : u.toBitVec.getLsbD i with
    | false => rfl
    | true => cases e2 : v.toBitVec.getLsbD i with
      | false => rfl
      | true => exact absurd ⟨i, hi, e1, e2⟩ q
  · rintro ⟨i, -, h1, h2⟩ q
    have e := congrArg (fun z => z.toBitVec.getLsbD i) q
    simp only [Int64.toBitVec_and, BitVec.getLsbD_and, h1, h2] at e
    have z : (0 : Int64).toBitVec.getLsbD i = false := by simp
    rw [z] at e
    exact absurd e (by decide)
theorem own_in1 (x y : Int32) : own_In [(own_k x, own_b x)] y ↔ y = x := by
  unfold own_In
  simp only [List.mem_singleton, exists_eq_left]
  rw [own_b_bit _ _ (own_ix_lt y)]
  constructor
  · rintro ⟨h1, h2⟩; exact (own_kb h1 h2.symm).symm
  · rintro rfl; exact ⟨rfl, rfl⟩
theorem own_in_cons (p : Int32 × Int64) (ps : List (Int32 × Int64)) (y : Int32) : own_In (p :: ps) y ↔ own_In [p] y ∨ own_In ps y := by
  unfold own_In
  simp only [List.mem_cons, List.not_mem_nil, or_false, exists_eq_or_imp, exists_eq_left]
theorem own_in_nil (y : Int32) : ¬ own_In [] y := fun ⟨_, h, _⟩ => nomatch h
theorem own_in_or (k : Int32) (w : Int64) (x y : Int32) (h : k = own_k x) : own_In [(k, w ||| own_b x)] y ↔ own_In [(k, w)] y ∨ y = x := by
  rw [← own_in1 x y]
  unfold own_In
  simp only [List.mem_singleton, exists_eq_left]
  rw [own_or_bit]
  subst h
  constructor
  · rintro ⟨h1, h2 | h2⟩
    · exact Or.inl ⟨h1, h2⟩
    · exact Or.inr ⟨h1, h2⟩
  · rintro (⟨h1, h2⟩ | ⟨h1, h2⟩)
    · exact ⟨h1, Or.inl h2⟩
    · exact ⟨h1, Or.inr h2⟩
theorem own_rep0 : own_Rep [] [] := fun y => ⟨fun h => absurd h (own_in_nil y), fun h => nomatch h⟩
theorem own_rep1 {ps qs : List (Int32 × Int64)} {L : List Int32} {x : Int32} (h : own_Rep ps L) (a : own_Add ps qs x) : own_Rep qs (x :: L) := fun y => by
  rw [a y, h y, List.mem_cons, or_comm]
/-- Yes says: a common member -/
theorem own_yes {ps qs : List (Int32 × Int64)} (h : own_Srt ps) : own_Yes ps qs ↔ ∃ x, own_In ps x ∧ own_In qs x := by
  constructor
  · rintro ⟨p, hp, q, hq, e, c⟩
    obtain ⟨i, hi, b1, b2⟩ := (own_and_bit _ _).mp c
    obtain ⟨y, hy⟩ := h.2 p hp
    have hk := own_k_nat y
    have hlt := y.toBitVec.isLt
    let x : Int32 := Int32.ofBitVec (BitVec.ofNat 32 (64 * (y.toBitVec.toNat / 64) + i))
    have hx : x.toBitVec.toNat = 64 * (y.toBitVec.toNat / 64) + i := by
      show (BitVec.ofNat 32 (64 * (y.toBitVec.toNat / 64) + i)).toNat = _
      rw [BitVec.toNat_ofNat, Nat.mod_eq_of_lt (by omega)]
    have k1 : own_k x = own_k y := by
      apply Int32.toBitVec_inj.mp
      apply BitVec.eq_of_toNat_eq
      rw [own_k_nat, own_k_nat, hx]
      omega
    have k2 : own_ix x = i := by unfold own_ix; rw [hx]; omega
    exact ⟨x, ⟨p, hp, by rw [k1]; exact hy, by rw [k2]; exact b1⟩, ⟨q, hq, by rw [k1, ← e]; exact hy, by rw [k2]; exact b2⟩⟩
  · rintro ⟨x, ⟨p, hp, k1, b1⟩, ⟨q, hq, k2, b2⟩⟩
    exact ⟨p, hp, q, hq, k1.trans k2.symm, (own_and_bit _ _).mpr ⟨_, own_ix_lt x, b1, b2⟩⟩
theorem own_yes_symm {ps qs : List (Int32 × Int64)} : own_Yes ps qs ↔ own_Yes qs ps := by
  constructor <;> (rintro ⟨p, hp, q, hq, e, c⟩; exact ⟨q, hq, p, hp, e.symm, by rw [Int64.and_comm]; exact c⟩)
/-- the merge: nothing common so far -/
def own_No (ps qs : List (Int32 × Int64)) (i j : Nat) : Prop := (∀ i' p, i' < i → ps[i']? = some p → ∀ q ∈ qs, ¬ (p.1 = q.1 ∧ ¬ p.2 &&& q.2 = 0)) ∧ (∀ j' q, j' < j → qs[j']? = some q → ∀ p ∈ ps, ¬ (p.1 = q.1 ∧ ¬ p.2 &&& q.2 = 0))
theorem own_no0 (ps qs : List (Int32 × Int64)) : own_No ps qs 0 0 := ⟨fun _ _ h => absurd h (Nat.not_lt_zero _), fun _ _ h => absurd h (Nat.not_lt_zero _)⟩
theorem own_no_flip {ps qs : List (Int32 × Int64)} {i j : Nat} (h : own_No ps qs i j) : own_No qs ps j i := by
  have f : ∀ p q : Int32 × Int64, ¬ (p.1 = q.1 ∧ ¬ p.2 &&& q.2 = 0) → ¬ (q.1 = p.1 ∧ ¬ q.2 &&& p.2 = 0) := fun p q h r => h ⟨r.1.symm, by rw [Int64.and_comm]; exact r.2⟩
  exact ⟨fun j' q hj hq p hp => f _ _ (h.2 j' q hj hq p hp), fun i' p hi hp q hq => f _ _ (h.1 i' p hi hp q hq)⟩
theorem own_srt_lt {ps : List (Int32 × Int64)} (h : own_Srt ps) {i j : Nat} {p q : Int32 × Int64} (hp : ps[i]? = some p) (hq : ps[j]? = some q) (hij : i < j) : p.1 < q.1 := by
  obtain ⟨hi, rfl⟩ := List.getElem?_eq_some_iff.mp hp
  obtain ⟨hj, rfl⟩ := List.getElem?_eq_some_iff.mp hq
  exact List.pairwise_iff_getElem.mp h.1 i j hi hj hij
theorem own_ltt {x y z : Int32} (h1 : x < y) (h2 : y < z) : x < z := by
  rw [Int32.lt_iff_toInt_lt] at *
  omega
theorem own_no_l {ps qs : List (Int32 × Int64)} (hq : own_Srt qs) {i j : Nat} {p q : Int32 × Int64} (hp : ps[i]? = some p) (hqj : qs[j]? = some q) (h : own_No ps qs i j) (lt : p.1 < q.1) : own_No ps qs (i + 1) j := by
  refine ⟨fun i' p' hi hp' q' hq' => ?_, h.2⟩
  by_cases e : i' < i
  · exact h.1 i' p' e hp' q' hq'
  · obtain rfl : i' = i := by omega
    cases hp.symm.trans hp'
    obtain ⟨j', hj', rfl⟩ := List.getElem_of_mem hq'
    rintro ⟨k, c⟩
    by_cases e2 : j' < j
    · exact h.2 j' _ e2 (List.getElem?_eq_getElem hj') p (List.mem_of_getElem? hp) ⟨k, c⟩
    · by_cases e3 : j' = j
      · subst e3
        have := Option.some.inj ((List.getElem?_eq_getElem hj').symm.trans hqj)
        rw [this] at k
        rw [k] at lt
        exact own_irr lt
      · have := own_srt_lt hq hqj (List.getElem?_eq_getElem hj') (by omega)
        have := own_ltt lt this
        rw [k] at this
        exact own_irr this
theorem own_no_r {ps qs : List (Int32 × Int64)} (hp : own_Srt ps) {i j : Nat} {p q : Int32 × Int64} (hpi : ps[i]? = some p) (hqj : qs[j]? = some q) (h : own_No ps qs i j) (lt : q.1 < p.1) : own_No ps qs i (j + 1) :=
  own_no_flip (own_no_l hp hqj hpi (own_no_flip h) lt)
theorem own_no_b {ps qs : List (Int32 × Int64)} (hps : own_Srt ps) (hqs : own_Srt qs) {i j : Nat} {p q : Int32 × Int64} (hpi : ps[i]? = some p) (hqj : qs[j]? = some q) (h : own_No ps qs i j) (e : p.1 = q.1) (c : p.2 &&& q.2 = 0) : own_No ps qs (i + 1) (j + 1) := by
  have key : ∀ {ps qs : List (Int32 × Int64)} {i j : Nat} {p q : Int32 × Int64}, own_Srt qs → ps[i]? = some p → qs[j]? = some q → own_No ps qs i j → p.1 = q.1 → p.2 &&& q.2 = 0 → ∀ q' ∈ qs, ¬ (p.1 = q'.1 ∧ ¬ p.2 &&& q'.2 = 0) := by
    intro ps qs i j p q hqs hpi hqj h e c q' hq' ⟨k, d⟩
    obtain ⟨j', hj', rfl⟩ := List.getElem_of_mem hq'
    by_cases e2 : j' < j
    · exact h.2 j' _ e2 (List.getElem?_eq_getElem hj') p (List.mem_of_getElem? hpi) ⟨k, d⟩
    · by_cases e3 : j' = j
      · subst e3
        have := Option.some.inj ((List.getElem?_eq_getElem hj').symm.trans hqj)
        rw [this] at d
        exact d c
      · have := own_srt_lt hqs hqj (List.getElem?_eq_getElem hj') (by omega)
        rw [← k, e] at this
        exact own_irr this
  refine ⟨fun i' p' hi hp' q' hq' => ?_, fun j' q' hj hq' p' hp' => ?_⟩
  · by_cases e2 : i' < i
    · exact h.1 i' p' e2 hp' q' hq'
    · obtain rfl : i' = i := by omega
      cases hpi.symm.trans hp'
      exact key hqs hpi hqj h e c q' hq'
  · by_cases e2 : j' < j
    · exact h.2 j' q' e2 hq' p' hp'
    · obtain rfl : j' = j := by omega
      cases hqj.symm.trans hq'
      rintro ⟨k, d⟩
      exact key hps hqj hpi (own_no_flip h) e.symm (by rw [Int64.and_comm]; exact c) p' hp' ⟨k.symm, by rw [Int64.and_comm]; exact d⟩
theorem own_no_end {ps qs : List (Int32 × Int64)} {i j : Nat} (h : own_No ps qs i j) (q : ps.length ≤ i ∨ qs.length ≤ j) : ¬ own_Yes ps qs := by
  rintro ⟨p, hp, r, hr, e, c⟩
  rcases q with q | q
  · obtain ⟨i', hi', rfl⟩ := List.getElem_of_mem hp
    exact h.1 i' _ (by omega) (List.getElem?_eq_getElem hi') r hr ⟨e, c⟩
  · obtain ⟨j', hj', rfl⟩ := List.getElem_of_mem hr
    exact h.2 j' _ (by omega) (List.getElem?_eq_getElem hj') p hp ⟨e, c⟩
theorem own_oI {n : Nat} (h : n ≤ 4) : (Int32.ofNat n).toInt = n := len_toInt (show n < 2 ^ 31 by omega)
theorem own_olt {m n : Nat} (hm : m ≤ 4) (hn : n ≤ 4) : Int32.ofNat m < Int32.ofNat n ↔ m < n := by
  rw [Int32.lt_iff_toInt_lt, own_oI hm, own_oI hn]; omega
theorem own_oN {n : Nat} (h : n ≤ 4) : (Int32.ofNat n).toNatClampNeg = n := by simp only [Int32.toNatClampNeg, own_oI h]; omega
theorem own_o0 {n : Nat} (h : n ≤ 4) : ¬ Int32.ofNat n < (0 : Int32) := by
  rw [Int32.lt_iff_toInt_lt, own_oI h]
  have z : (0 : Int32).toInt = 0 := rfl
  omega
theorem own_os (n : Nat) : Int32.ofNat n + (1 : Int32) = Int32.ofNat (n + 1) := by
  apply Int32.toBitVec_inj.mp
  show BitVec.ofNat 32 n + BitVec.ofNat 32 1 = BitVec.ofNat 32 (n + 1)
  rw [← BitVec.ofNat_add]
theorem own_lv {ps : List (Int32 × Int64)} {i : Nat} {p : Int32 × Int64} (hi : i ≤ 4) (hp : ps[i]? = some p) : (ps.map fun p => Value.int p.1).getD (Int32.ofNat i).toNatClampNeg (.int 0) = .int p.1 ∧ (ps.map fun p => Value.long p.2).getD (Int32.ofNat i).toNatClampNeg (.long 0) = .long p.2 := by
  rw [own_oN hi]
  simp [List.getD_eq_getElem?_getD, hp]
theorem own_lc0 {x : Int64} (h : x = 0) : (if x > 0 then 1 else if x = 0 then 0 else -1 : Int32) = 0 := by subst h; decide
theorem own_lc1 {x : Int64} (h : ¬ x = 0) : ¬ (if x > 0 then 1 else if x = 0 then 0 else -1 : Int32) = 0 := by
  split
  · decide
  · first | (rw [if_neg h]; decide) | decide
theorem own_ee {x y : Int32} (h1 : ¬ x < y) (h2 : ¬ y < x) : x = y := by
  apply Int32.toInt_inj.mp
  rw [Int32.lt_iff_toInt_lt] at h1 h2
  omega
/-- the set at a -/
def own_IS (Z : State) (h : Heap) (a : Addr) (ps : List (Int32 × Int64)) : Prop := ∃ (kt wt : Addr) (kk kw : ClassId), Fld Z h a "com/example/hatoyama/hatoyama/IndexSet" "used" "I" (.int (Int32.ofNat ps.length)) ∧ Fld Z h a "com/example/hatoyama/hatoyama/IndexSet" "keys" "[I" (.ref kt) ∧ Fld Z h a "com/example/hatoyama/hatoyama/IndexSet" "words" "[J" (.ref wt) ∧ Arv Z h kt kk .int (Int32.ofNat ps.length) (ps.map fun p => .int p.1) (.int 0) ∧ Arv Z h wt kw .long (Int32.ofNat ps.length) (ps.map fun p => .long p.2) (.long 0) ∧ ps.length ≤ 3
theorem own_IS_keep {Z : State} {h h' : Heap} {a : Addr} {ps : List (Int32 × Int64)} (F : own_IS Z h a ps) (K : Keep h h' []) : own_IS Z h' a ps := by
  obtain ⟨kt, wt, kk, kw, f1, f2, f3, f4, f5, r⟩ := F
  exact ⟨kt, wt, kk, kw, f1.keep K nin0, f2.keep K nin0, f3.keep K nin0, f4.keep K nin0, f5.keep K nin0, r⟩
theorem own_IS_keep1 {Z : State} {a0 : Array Value} {h h' : Heap} {a b : Addr} {ps : List (Int32 × Int64)} {D : String} {k : Nat} (F : own_IS Z h a ps) (K : Keep h h' [b]) (n1 : a ≠ b) (E : Exa Z h b D) (w : (Jvm.Cond.instantiable D k).before a0 Z = true) : own_IS Z h' a ps := by
  obtain ⟨kt, wt, kk, kw, f1, f2, f3, f4, f5, r⟩ := F
  have n2 : kt ≠ b := Ne.symm (Exa.neArv E f4 w)
  have n3 : wt ≠ b := Ne.symm (Exa.neArv E f5 w)
  exact ⟨kt, wt, kk, kw, f1.keep K (ninS n1 nin0), f2.keep K (ninS n1 nin0), f3.keep K (ninS n1 nin0), f4.keep K (ninS n2 nin0), f5.keep K (ninS n3 nin0), r⟩
def own_L (n x y z : Int32) : List Int32 := if (2 : Int32) < n then [z, y, x] else if (1 : Int32) < n then [y, x] else if (0 : Int32) < n then [x] else []
theorem own_L0 {n x y z : Int32} (h0 : ¬ (0 : Int32) < n) (h1 : ¬ (1 : Int32) < n) (h2 : ¬ (2 : Int32) < n) : own_L n x y z = [] := by unfold own_L; rw [if_neg h2, if_neg h1, if_neg h0]
theorem own_L1 {n x y z : Int32} (h0 : (0 : Int32) < n) (h1 : ¬ (1 : Int32) < n) (h2 : ¬ (2 : Int32) < n) : own_L n x y z = [x] := by unfold own_L; rw [if_neg h2, if_neg h1, if_pos h0]
theorem own_L2 {n x y z : Int32} (h0 : (0 : Int32) < n) (h1 : (1 : Int32) < n) (h2 : ¬ (2 : Int32) < n) : own_L n x y z = [y, x] := by unfold own_L; rw [if_neg h2, if_pos h1]
theorem own_L3 {n x y z : Int32} (h0 : (0 : Int32) < n) (h1 : (1 : Int32) < n) (h2 : (2 : Int32) < n) : own_L n x y z = [z, y, x] := by unfold own_L; rw [if_pos h2]
theorem own_Lm {n x y z w : Int32} : w ∈ own_L n x y z ↔ ((0 : Int32) < n ∧ w = x) ∨ ((1 : Int32) < n ∧ w = y) ∨ ((2 : Int32) < n ∧ w = z) := by
  have m1 : (1 : Int32) < n → (0 : Int32) < n := fun h => own_ltt (by decide) h
  have m2 : (2 : Int32) < n → (1 : Int32) < n := fun h => own_ltt (by decide) h
  unfold own_L
  by_cases h2 : (2 : Int32) < n
  · have h1 := m2 h2
    have h0 := m1 h1
    rw [if_pos h2]
    simp only [h0, h1, h2, true_and, List.mem_cons, List.not_mem_nil, or_false]
    constructor
    · rintro (h | h | h)
      · exact Or.inr (Or.inr h)
      · exact Or.inr (Or.inl h)
      · exact Or.inl h
    · rintro (h | h | h)
      · exact Or.inr (Or.inr h)
      · exact Or.inr (Or.inl h)
      · exact Or.inl h
  · rw [if_neg h2]
    by_cases h1 : (1 : Int32) < n
    · have h0 := m1 h1
      rw [if_pos h1]
      simp only [h0, h1, h2, true_and, false_and, or_false, List.mem_cons, List.not_mem_nil]
      constructor
      · rintro (h | h)
        · exact Or.inr h
        · exact Or.inl h
      · rintro (h | h)
        · exact Or.inr h
        · exact Or.inl h
    · rw [if_neg h1]
      by_cases h0 : (0 : Int32) < n
      · rw [if_pos h0]
        simp only [h0, h1, h2, true_and, false_and, or_false, List.mem_cons, List.not_mem_nil]
      · rw [if_neg h0]
        simp only [h0, h1, h2, false_and, or_false, List.not_mem_nil]
def own_is (z : Int32) (P : Prop) : Prop := (z = 1 ∧ P) ∨ (z = 0 ∧ ¬ P)
theorem own_isT {z : Int32} {P : Prop} (h : own_is z P) (q : ¬ z = (0 : Int32)) : P := by
  rcases h with ⟨-, h⟩ | ⟨h, -⟩
  · exact h
  · exact absurd h q
theorem own_isN {z : Int32} {P : Prop} (h : own_is z P) (q : P) : ¬ z = (0 : Int32) := by
  rcases h with ⟨h, -⟩ | ⟨-, h⟩
  · rw [h]; decide
  · exact absurd q h
theorem own_is1 {z : Int32} {P : Prop} (h : own_is z P) (q : P) : (1 : Int32) = z := by
  rcases h with ⟨h, -⟩ | ⟨-, h⟩
  · exact h.symm
  · exact absurd q h
theorem own_is0 {z : Int32} {P : Prop} (h : own_is z P) (q : ¬ P) : (0 : Int32) = z := by
  rcases h with ⟨-, h⟩ | ⟨h, -⟩
  · exact absurd h q
  · exact h.symm
def own_C (n x y z n' x' y' z' : Int32) : Prop := ∃ w, w ∈ own_L n x y z ∧ w ∈ own_L n' x' y' z'
theorem own_Cyes {n x y z n' x' y' z' : Int32} {ps qs : List (Int32 × Int64)} (h : own_Srt ps) (r1 : own_Rep ps (own_L n x y z)) (r2 : own_Rep qs (own_L n' x' y' z')) : own_Yes ps qs ↔ own_C n x y z n' x' y' z' := by
  rw [own_yes h]
  constructor <;> (rintro ⟨w, h1, h2⟩)
  · exact ⟨w, (r1 w).mp h1, (r2 w).mp h2⟩
  · exact ⟨w, (r1 w).mpr h1, (r2 w).mpr h2⟩
theorem own_none {n x y z n' x' y' z' f0 f1 f2 g0 g1 g2 : Int32} (a0 : own_is f0 ((0 : Int32) < n)) (a1 : own_is f1 ((1 : Int32) < n)) (a2 : own_is f2 ((2 : Int32) < n)) (b0 : own_is g0 ((0 : Int32) < n')) (b1 : own_is g1 ((1 : Int32) < n')) (b2 : own_is g2 ((2 : Int32) < n'))
    (h1 : ¬ (¬ f0 = (0 : Int32) ∧ ¬ g0 = (0 : Int32) ∧ x = x')) (h2 : ¬ (¬ f0 = (0 : Int32) ∧ ¬ g1 = (0 : Int32) ∧ x = y')) (h3 : ¬ (¬ f0 = (0 : Int32) ∧ ¬ g2 = (0 : Int32) ∧ x = z'))
    (h4 : ¬ (¬ f1 = (0 : Int32) ∧ ¬ g0 = (0 : Int32) ∧ y = x')) (h5 : ¬ (¬ f1 = (0 : Int32) ∧ ¬ g1 = (0 : Int32) ∧ y = y')) (h6 : ¬ (¬ f1 = (0 : Int32) ∧ ¬ g2 = (0 : Int32) ∧ y = z'))
    (h7 : ¬ (¬ f2 = (0 : Int32) ∧ ¬ g0 = (0 : Int32) ∧ z = x')) (h8 : ¬ (¬ f2 = (0 : Int32) ∧ ¬ g1 = (0 : Int32) ∧ z = y')) (h9 : ¬ (¬ f2 = (0 : Int32) ∧ ¬ g2 = (0 : Int32) ∧ z = z')) : ¬ own_C n x y z n' x' y' z' := by
  rintro ⟨w, p, q⟩
  rw [own_Lm] at p q
  rcases p with ⟨p, e⟩ | ⟨p, e⟩ | ⟨p, e⟩ <;> rcases q with ⟨q, e'⟩ | ⟨q, e'⟩ | ⟨q, e'⟩
  · exact h1 ⟨own_isN a0 p, own_isN b0 q, e.symm.trans e'⟩
  · exact h2 ⟨own_isN a0 p, own_isN b1 q, e.symm.trans e'⟩
  · exact h3 ⟨own_isN a0 p, own_isN b2 q, e.symm.trans e'⟩
  · exact h4 ⟨own_isN a1 p, own_isN b0 q, e.symm.trans e'⟩
  · exact h5 ⟨own_isN a1 p, own_isN b1 q, e.symm.trans e'⟩
  · exact h6 ⟨own_isN a1 p, own_isN b2 q, e.symm.trans e'⟩
  · exact h7 ⟨own_isN a2 p, own_isN b0 q, e.symm.trans e'⟩
  · exact h8 ⟨own_isN a2 p, own_isN b1 q, e.symm.trans e'⟩
  · exact h9 ⟨own_isN a2 p, own_isN b2 q, e.symm.trans e'⟩
theorem own_some {n x y z n' x' y' z' w : Int32} (h1 : w ∈ own_L n x y z) (h2 : w ∈ own_L n' x' y' z') : own_C n x y z n' x' y' z' := ⟨w, h1, h2⟩
theorem own_in_app (A B : List (Int32 × Int64)) (y : Int32) : own_In (A ++ B) y ↔ own_In A y ∨ own_In B y := by
  unfold own_In
  constructor
  · rintro ⟨p, hp, r⟩
    rcases List.mem_append.mp hp with hp | hp
    · exact Or.inl ⟨p, hp, r⟩
    · exact Or.inr ⟨p, hp, r⟩
  · rintro (⟨p, hp, r⟩ | ⟨p, hp, r⟩)
    · exact ⟨p, List.mem_append_left _ hp, r⟩
    · exact ⟨p, List.mem_append_right _ hp, r⟩
theorem own_add_ins (A B : List (Int32 × Int64)) (x : Int32) : own_Add (A ++ B) (A ++ (own_k x, own_b x) :: B) x := fun y => by
  rw [own_in_app, own_in_app, own_in_cons, own_in1]
  constructor
  · rintro (h | h | h)
    · exact Or.inl (Or.inl h)
    · exact Or.inr h
    · exact Or.inl (Or.inr h)
  · rintro ((h | h) | h)
    · exact Or.inl h
    · exact Or.inr (Or.inr h)
    · exact Or.inr (Or.inl h)
theorem own_add_or (A B : List (Int32 × Int64)) (k : Int32) (w : Int64) (x : Int32) (h : k = own_k x) : own_Add (A ++ (k, w) :: B) (A ++ (k, w ||| own_b x) :: B) x := fun y => by
  rw [own_in_app, own_in_app, own_in_cons, own_in_cons (k, w), own_in_or k w x y h]
  constructor
  · rintro (h | (h | h) | h)
    · exact Or.inl (Or.inl h)
    · exact Or.inl (Or.inr (Or.inl h))
    · exact Or.inr h
    · exact Or.inl (Or.inr (Or.inr h))
  · rintro ((h | h | h) | h)
    · exact Or.inl h
    · exact Or.inr (Or.inl (Or.inl h))
    · exact Or.inr (Or.inr h)
    · exact Or.inr (Or.inl (Or.inr h))
theorem own_srt0 : own_Srt [] := ⟨List.Pairwise.nil, fun _ h => nomatch h⟩
theorem own_srt1 {a : Int32 × Int64} (ha : ∃ y, a.1 = own_k y) : own_Srt [a] := ⟨List.pairwise_singleton _ _, fun p hp => by rw [List.mem_singleton.mp hp]; exact ha⟩
theorem own_srt2 {a b : Int32 × Int64} (h1 : a.1 < b.1) (ha : ∃ y, a.1 = own_k y) (hb : ∃ y, b.1 = own_k y) : own_Srt [a, b] := by
  refine ⟨by simp [h1], fun p hp => ?_⟩
  simp only [List.mem_cons, List.not_mem_nil, or_false] at hp
  rcases hp with rfl | rfl
  · exact ha
  · exact hb
theorem own_srt3 {a b c : Int32 × Int64} (h1 : a.1 < b.1) (h2 : b.1 < c.1) (ha : ∃ y, a.1 = own_k y) (hb : ∃ y, b.1 = own_k y) (hc : ∃ y, c.1 = own_k y) : own_Srt [a, b, c] := by
  refine ⟨by simp [h1, h2, own_ltt h1 h2], fun p hp => ?_⟩
  simp only [List.mem_cons, List.not_mem_nil, or_false] at hp
  rcases hp with rfl | rfl | rfl
  · exact ha
  · exact hb
  · exact hc
theorem own_srtm {ps : List (Int32 × Int64)} (h : own_Srt ps) {i : Nat} {p : Int32 × Int64} (e : ps[i]? = some p) : ∃ y, p.1 = own_k y := h.2 p (List.mem_of_getElem? e)
theorem own_exa_v {s : State} {args : Array Value} {t : Term} {C : String} (h : (Jvm.Cond.exactly t C).value args s none s [] = some true) : ∃ a, t.eval args s none [] s = some (.ref a) := by
  obtain ⟨a', c', cell, k, e1, -⟩ := Cond.exactly_spec (Cond.before_iff.mpr h)
  exact ⟨a', e1⟩
theorem own_len0 {s : State} {args : Array Value} {t : Term} {a : Addr} {c : Cell} {ty : FieldType} (ev : t.eval args s none [] s = some (.ref a)) (A : Arr s s.heap a c ty) (h : (Jvm.Cond.eq (.length t) (.int (0 : Int32))).value args s none s [] = some true) : c.slots.size = 0 := by
  have ha : s.arrayAt? a = some c := A.fin (Vm.Alike.refl _)
  by_cases q : c.slots.size < 2 ^ 31
  · have e := gotT (Cond.eq_ints (len_f ev ha q) (Term.int_eval 0)) h
    have e2 := congrArg Int32.toInt e
    rw [len_toInt q] at e2
    have z : (0 : Int32).toInt = 0 := rfl
    omega
  · exfalso
    have e : (Term.length t).eval args s none [] s = none := by simp [Term.eval, ev, ha, q]
    simp [Cond.value, e] at h
theorem own_arv0 {s : State} {args : Array Value} {t : Term} {a : Addr} {c : Cell} {ty : FieldType} (hf : Fit s) (ev : t.eval args s none [] s = some (.ref a)) (A : Arr s s.heap a c ty) (h : (Jvm.Cond.eq (.length t) (.int (0 : Int32))).value args s none s [] = some true) {d : Value} : Arv s s.heap a c.cls ty (0 : Int32) [] d := by
  have e := own_len0 ev A h
  exact Arv.start hf A (by omega) (by rw [e]; rfl) (by decide) rfl trivial

theorem own_pn0 : plainName "com/example/hatoyama/hatoyama/IndexSet" = true := by decide +kernel
theorem own_d0_0 : decode prog_3_method_1_code 0 = .ok (.aload_n 0, 1) := by decide +kernel
theorem own_d0_1 : decode prog_3_method_1_code 1 = .ok (.invokespecial 1, 3) := by decide +kernel
theorem own_d0_4 : decode prog_3_method_1_code 4 = .ok (.aload_n 0, 1) := by decide +kernel
theorem own_d0_5 : decode prog_3_method_1_code 5 = .ok (.getstatic 7, 3) := by decide +kernel
theorem own_d0_8 : decode prog_3_method_1_code 8 = .ok (.putfield 13, 3) := by decide +kernel
theorem own_d0_11 : decode prog_3_method_1_code 11 = .ok (.aload_n 0, 1) := by decide +kernel
theorem own_d0_12 : decode prog_3_method_1_code 12 = .ok (.getstatic 16, 3) := by decide +kernel
theorem own_d0_15 : decode prog_3_method_1_code 15 = .ok (.putfield 20, 3) := by decide +kernel
theorem own_d0_18 : decode prog_3_method_1_code 18 = .ok (.return_, 1) := by decide +kernel
set_option maxHeartbeats 4000000 in
theorem own_ef_rm0 (m : MethodId) (x0 : Addr) : entryFrame m #[(.ref x0)] 1 = mkF m 0 #[.val (.ref x0)] [] := by rfl
set_option maxRecDepth 65536 in
set_option maxHeartbeats 40000000 in
theorem rm0 (l : Launch) (Z : State) (a0 : Array Value) (hw : ∀ d ∈ tables_1, d.before a0 Z = true) (nk : Addr) (kk0 : ClassId) (O_nk : Sta Z Z.heap "com/example/hatoyama/hatoyama/IndexSet" "NO_KEYS" "[I" (.ref nk)) (V_nk : Arv Z Z.heap nk kk0 .int (0 : Int32) [] (.int (0 : Int32))) (nw : Addr) (kw0 : ClassId) (O_nw : Sta Z Z.heap "com/example/hatoyama/hatoyama/IndexSet" "NO_WORDS" "[J" (.ref nw)) (V_nw : Arv Z Z.heap nw kw0 .long (0 : Int32) [] (.long (0 : Int64))) (ws : List Jvm.Cond) (a : Addr) (h0 : Heap) (n0 : Nat) (Z0 : n0 ≤ h0.size) (Xo : Old Z n0 h0) (Ea : Exa Z h0 a "com/example/hatoyama/hatoyama/IndexSet") (Fk : Fld Z h0 a "com/example/hatoyama/hatoyama/IndexSet" "keys" "[I" .null) (Fw : Fld Z h0 a "com/example/hatoyama/hatoyama/IndexSet" "words" "[J" .null) (Fu : Fld Z h0 a "com/example/hatoyama/hatoyama/IndexSet" "used" "I" (.int (0 : Int32))) (gz_a : n0 ≤ a) :
    own_MetN l Z (⟨"com/example/hatoyama/hatoyama/IndexSet", "<init>", "()V"⟩ : MethodName) prog_3_method_1_code 1 none ws ({ frames := 1, cells := 0, slots := 0, locals := 12 } : Room) #[(.ref a)] h0 (fun v h L => Fr n0 L ∧ Keep h0 h [a] ∧ (((v = none) ∧ (Exa Z h a "com/example/hatoyama/hatoyama/IndexSet") ∧ (Fld Z h a "com/example/hatoyama/hatoyama/IndexSet" "keys" "[I" (.ref nk)) ∧ (Fld Z h a "com/example/hatoyama/hatoyama/IndexSet" "words" "[J" (.ref nw)) ∧ (Fld Z h a "com/example/hatoyama/hatoyama/IndexSet" "used" "I" (.int (0 : Int32)))))) := by
  refine own_metN (plainFor_of_name own_pn0) ?_
  intro p e s m below meth c s₁ G hx hby hml hZ hown hnm hret X0 e0 go fin
  have N0 := Fr.nil n0
  refine go _ _ (fun _ k => castTop (own_ef_rm0 m a) k) ?_
  show G (s₁.setTop (mkF m 0 #[.val (.ref a)] []))
  refine go _ _ (fun _ k => XS.aloadN X0.here hx rfl (hb hby own_d0_0) rfl rfl k) ?_
  show G (s₁.setTop (mkF m 1 #[.val (.ref a)] [(.ref a)]))
  obtain ⟨T101, X101, e101, st101⟩ := initO X0 hx hZ hown (ow hw 6 rfl) (ow hw 7 rfl) (ow hw 8 rfl) e0 (g := (mkF m 1 #[.val (.ref a)] [(.ref a)])) rfl (by rw [hml]; rfl) rfl (hb hby own_d0_1) (by decide) (W := 0) (by show 2 * 0 + _ ≤ _; exact Nat.le_of_eq rfl) (by decide)
  refine go _ _ (st101) ?_
  show G (T101.setTop (mkF m 4 #[.val (.ref a)] []))
  refine go _ _ (fun _ k => XS.aloadN X101.here hx rfl (hb hby own_d0_4) rfl rfl k) ?_
  show G (T101.setTop (mkF m 5 #[.val (.ref a)] [(.ref a)]))
  obtain ⟨T102, X102, e102, st102⟩ := getS2 X101 hx hZ (host := "") hown (Or.inl (ow hw 9 rfl)) Via.refl e101 (O_nk.ext Xo.2) (g := (mkF m 5 #[.val (.ref a)] [(.ref a)])) rfl (hb hby own_d0_5)
  refine go _ _ (st102) ?_
  show G (T102.setTop (mkF m 8 #[.val (.ref a)] [(.ref nk), (.ref a)]))
  obtain ⟨T103, h103, X103, e103, W103, st103⟩ := putF X102 hx hZ hown (host := "") (Or.inl (ow hw 11 rfl)) Via.refl e102 Fk Ea (Or.inl (ow hw 12 rfl)) (ow hw 1 rfl) (ty := (.array .int)) (by decide) rfl rfl (g := (mkF m 8 #[.val (.ref a)] [(.ref nk), (.ref a)])) rfl rfl (hb hby own_d0_8)
  have N103 := Fr.snoc X103 N0 gz_a
  refine go _ _ (st103) ?_
  show G (T103.setTop (mkF m 11 #[.val (.ref a)] []))
  refine go _ _ (fun _ k => XS.aloadN X103.here hx rfl (hb hby own_d0_11) rfl rfl k) ?_
  show G (T103.setTop (mkF m 12 #[.val (.ref a)] [(.ref a)]))
  have K105 : Keep h0 h103 [a] := (Keep.refl h0 [a]).wr W103 (Or.inl (List.mem_of_getElem? (i := 0) rfl))
  have F106 : Old Z n0 h103 := (Xo.keep K105 (allS gz_a all0))
  obtain ⟨T104, X104, e104, st104⟩ := getS2 X103 hx hZ (host := "") hown (Or.inl (ow hw 13 rfl)) Via.refl e103 (O_nw.ext F106.2) (g := (mkF m 12 #[.val (.ref a)] [(.ref a)])) rfl (hb hby own_d0_12)
  refine go _ _ (st104) ?_
  show G (T104.setTop (mkF m 15 #[.val (.ref a)] [(.ref nw), (.ref a)]))
  obtain ⟨T107, h107, X107, e107, W107, st107⟩ := putF X104 hx hZ hown (host := "") (Or.inl (ow hw 15 rfl)) Via.refl e104 (Fw.other W103 (Or.inr (RoadKit.slot_ne (t := (.array .long)) (t' := (.array .int)) (Or.inl (ow hw 16 rfl)) (Or.inl (ow hw 12 rfl)) (by decide) (by decide) (by decide)))) (Ea.wr W103) (Or.inl (ow hw 16 rfl)) (ow hw 1 rfl) (ty := (.array .long)) (by decide) rfl rfl (g := (mkF m 15 #[.val (.ref a)] [(.ref nw), (.ref a)])) rfl rfl (hb hby own_d0_15)
  have N107 := Fr.snoc X107 N103 gz_a
  refine go _ _ (st107) ?_
  show G (T107.setTop (mkF m 18 #[.val (.ref a)] []))
  have K108 : Keep h0 h107 [a] := K105.wr W107 (Or.inl (List.mem_of_getElem? (i := 0) rfl))
  refine fin T107 _ _ _ none X107 (fun _ => rfl) (by decide) (by decide) (by rw [e107]; exact ⟨N107, K108, ⟨rfl, ((Ea.wr W103).wr W107), ((Fk.same W103).other W107 (Or.inr (RoadKit.slot_ne (t := (.array .int)) (t' := (.array .long)) (Or.inl (ow hw 12 rfl)) (Or.inl (ow hw 16 rfl)) (by decide) (by decide) (by decide)))), ((Fw.other W103 (Or.inr (RoadKit.slot_ne (t := (.array .long)) (t' := (.array .int)) (Or.inl (ow hw 16 rfl)) (Or.inl (ow hw 12 rfl)) (by decide) (by decide) (by decide)))).same W107), ((Fu.other W103 (Or.inr (RoadKit.slot_ne (t := .int) (t' := (.array .int)) (Or.inl (ow hw 27 rfl)) (Or.inl (ow hw 12 rfl)) (by decide) (by decide) (by decide)))).other W107 (Or.inr (RoadKit.slot_ne (t := .int) (t' := (.array .long)) (Or.inl (ow hw 27 rfl)) (Or.inl (ow hw 16 rfl)) (by decide) (by decide) (by decide))))⟩⟩) _ (own_retV X107 hx hret (hb hby own_d0_18))
theorem own_d10_0 : decode jdk_29_method_69_code 0 = .ok (.iload_n 0, 1) := by decide +kernel
theorem own_d10_1 : decode jdk_29_method_69_code 1 = .ok (.iload_n 1, 1) := by decide +kernel
theorem own_d10_2 : decode jdk_29_method_69_code 2 = .ok (.if_icmp .gt 7, 3) := by decide +kernel
theorem own_d10_9 : decode jdk_29_method_69_code 9 = .ok (.iload_n 1, 1) := by decide +kernel
theorem own_d10_10 : decode jdk_29_method_69_code 10 = .ok (.ireturn, 1) := by decide +kernel
theorem own_d10_5 : decode jdk_29_method_69_code 5 = .ok (.iload_n 0, 1) := by decide +kernel
theorem own_d10_6 : decode jdk_29_method_69_code 6 = .ok (.goto 4, 3) := by decide +kernel
set_option maxHeartbeats 4000000 in
theorem own_ef_rm10 (m : MethodId) (x0 : Int32) (x1 : Int32) : entryFrame m #[(.int x0), (.int x1)] 2 = mkF m 0 #[.val (.int x0), .val (.int x1)] [] := by rfl
set_option maxRecDepth 65536 in
set_option maxHeartbeats 40000000 in
theorem rm10 (l : Launch) (Z : State) (a0 : Array Value) (hw : ∀ d ∈ tables_1, d.before a0 Z = true) (nk : Addr) (kk0 : ClassId) (O_nk : Sta Z Z.heap "com/example/hatoyama/hatoyama/IndexSet" "NO_KEYS" "[I" (.ref nk)) (V_nk : Arv Z Z.heap nk kk0 .int (0 : Int32) [] (.int (0 : Int32))) (nw : Addr) (kw0 : ClassId) (O_nw : Sta Z Z.heap "com/example/hatoyama/hatoyama/IndexSet" "NO_WORDS" "[J" (.ref nw)) (V_nw : Arv Z Z.heap nw kw0 .long (0 : Int32) [] (.long (0 : Int64))) (ws : List Jvm.Cond) (x : Int32) (y : Int32) (h0 : Heap) (n0 : Nat) (Z0 : n0 ≤ h0.size) :
    own_MetN l Z (⟨"java/lang/Math", "min", "(II)I"⟩ : MethodName) jdk_29_method_69_code 2 (some .int) ws ({ frames := 0, cells := 0, slots := 0, locals := 0 } : Room) #[(.int x), (.int y)] h0 (fun v h L => Fr n0 L ∧ h = h0 ∧ (((v = some (.int y)) ∧ (y < x)) ∨ ((v = some (.int x)) ∧ (¬ y < x)))) := by
  refine own_metN (Free.JP.mathPlain rfl (by decide)) ?_
  intro p e s m below meth c s₁ G hx hby hml hZ hown hnm hret X0 e0 go fin
  have N0 := Fr.nil n0
  refine go _ _ (fun _ k => castTop (own_ef_rm10 m x y) k) ?_
  show G (s₁.setTop (mkF m 0 #[.val (.int x), .val (.int y)] []))
  refine go _ _ (fun _ k => XS.iloadN X0.here hx rfl (hb hby own_d10_0) rfl (XS.iloadN X0.here hx rfl (hb hby own_d10_1) rfl k)) ?_
  show G (s₁.setTop (mkF m 2 #[.val (.int x), .val (.int y)] [(.int y), (.int x)]))
  by_cases hc2_101 : y < x
  · refine go _ _ (fun _ k => XS.icmpYes X0.here hx rfl (pc0 := 2) (pc' := 9) rfl (hb hby own_d10_2) rfl (tlt hc2_101).2.2.1 (by decide) (by decide) k) ?_
    show G (s₁.setTop (mkF m 9 #[.val (.int x), .val (.int y)] []))
    refine go _ _ (fun _ k => XS.iloadN X0.here hx rfl (hb hby own_d10_9) rfl k) ?_
    show G (s₁.setTop (mkF m 10 #[.val (.int x), .val (.int y)] [(.int y)]))
    refine fin s₁ _ _ _ (some (.int y)) X0 (fun q => nomatch q) (by decide) (by decide) (by rw [e0]; exact ⟨N0, rfl, (Or.inl ⟨rfl, hc2_101⟩)⟩) _ (own_retI X0 hx hret (hb hby own_d10_10))
  · refine go _ _ (fun _ k => XS.icmpNo X0.here hx rfl (hb hby own_d10_2) rfl (flt hc2_101).2.2.1 k) ?_
    show G (s₁.setTop (mkF m 5 #[.val (.int x), .val (.int y)] []))
    refine go _ _ (fun _ k => XS.iloadN X0.here hx rfl (hb hby own_d10_5) rfl k) ?_
    show G (s₁.setTop (mkF m 6 #[.val (.int x), .val (.int y)] [(.int x)]))
    refine go _ _ (fun _ k => XS.goto X0.here hx rfl (pc0 := 6) (pc' := 10) rfl (hb hby own_d10_6) (by decide) (by decide) k) ?_
    show G (s₁.setTop (mkF m 10 #[.val (.int x), .val (.int y)] [(.int x)]))
    refine fin s₁ _ _ _ (some (.int x)) X0 (fun q => nomatch q) (by decide) (by decide) (by rw [e0]; exact ⟨N0, rfl, (Or.inr ⟨rfl, hc2_101⟩)⟩) _ (own_retI X0 hx hret (hb hby own_d10_10))
theorem own_d8_0 : decode jdk_29_method_65_code 0 = .ok (.iload_n 0, 1) := by decide +kernel
theorem own_d8_1 : decode jdk_29_method_65_code 1 = .ok (.iload_n 1, 1) := by decide +kernel
theorem own_d8_2 : decode jdk_29_method_65_code 2 = .ok (.if_icmp .lt 7, 3) := by decide +kernel
theorem own_d8_9 : decode jdk_29_method_65_code 9 = .ok (.iload_n 1, 1) := by decide +kernel
theorem own_d8_10 : decode jdk_29_method_65_code 10 = .ok (.ireturn, 1) := by decide +kernel
theorem own_d8_5 : decode jdk_29_method_65_code 5 = .ok (.iload_n 0, 1) := by decide +kernel
theorem own_d8_6 : decode jdk_29_method_65_code 6 = .ok (.goto 4, 3) := by decide +kernel
set_option maxHeartbeats 4000000 in
theorem own_ef_rm8 (m : MethodId) (x0 : Int32) (x1 : Int32) : entryFrame m #[(.int x0), (.int x1)] 2 = mkF m 0 #[.val (.int x0), .val (.int x1)] [] := by rfl
set_option maxRecDepth 65536 in
set_option maxHeartbeats 40000000 in
theorem rm8 (l : Launch) (Z : State) (a0 : Array Value) (hw : ∀ d ∈ tables_1, d.before a0 Z = true) (nk : Addr) (kk0 : ClassId) (O_nk : Sta Z Z.heap "com/example/hatoyama/hatoyama/IndexSet" "NO_KEYS" "[I" (.ref nk)) (V_nk : Arv Z Z.heap nk kk0 .int (0 : Int32) [] (.int (0 : Int32))) (nw : Addr) (kw0 : ClassId) (O_nw : Sta Z Z.heap "com/example/hatoyama/hatoyama/IndexSet" "NO_WORDS" "[J" (.ref nw)) (V_nw : Arv Z Z.heap nw kw0 .long (0 : Int32) [] (.long (0 : Int64))) (ws : List Jvm.Cond) (x : Int32) (y : Int32) (h0 : Heap) (n0 : Nat) (Z0 : n0 ≤ h0.size) :
    own_MetN l Z (⟨"java/lang/Math", "max", "(II)I"⟩ : MethodName) jdk_29_method_65_code 2 (some .int) ws ({ frames := 0, cells := 0, slots := 0, locals := 0 } : Room) #[(.int x), (.int y)] h0 (fun v h L => Fr n0 L ∧ h = h0 ∧ (((v = some (.int y)) ∧ (x < y)) ∨ ((v = some (.int x)) ∧ (¬ x < y)))) := by
  refine own_metN (Free.JP.mathPlain rfl (by decide)) ?_
  intro p e s m below meth c s₁ G hx hby hml hZ hown hnm hret X0 e0 go fin
  have N0 := Fr.nil n0
  refine go _ _ (fun _ k => castTop (own_ef_rm8 m x y) k) ?_
  show G (s₁.setTop (mkF m 0 #[.val (.int x), .val (.int y)] []))
  refine go _ _ (fun _ k => XS.iloadN X0.here hx rfl (hb hby own_d8_0) rfl (XS.iloadN X0.here hx rfl (hb hby own_d8_1) rfl k)) ?_
  show G (s₁.setTop (mkF m 2 #[.val (.int x), .val (.int y)] [(.int y), (.int x)]))
  by_cases hc2_101 : x < y
  · refine go _ _ (fun _ k => XS.icmpYes X0.here hx rfl (pc0 := 2) (pc' := 9) rfl (hb hby own_d8_2) rfl (tlt hc2_101).1 (by decide) (by decide) k) ?_
    show G (s₁.setTop (mkF m 9 #[.val (.int x), .val (.int y)] []))
    refine go _ _ (fun _ k => XS.iloadN X0.here hx rfl (hb hby own_d8_9) rfl k) ?_
    show G (s₁.setTop (mkF m 10 #[.val (.int x), .val (.int y)] [(.int y)]))
    refine fin s₁ _ _ _ (some (.int y)) X0 (fun q => nomatch q) (by decide) (by decide) (by rw [e0]; exact ⟨N0, rfl, (Or.inl ⟨rfl, hc2_101⟩)⟩) _ (own_retI X0 hx hret (hb hby own_d8_10))
  · refine go _ _ (fun _ k => XS.icmpNo X0.here hx rfl (hb hby own_d8_2) rfl (flt hc2_101).1 k) ?_
    show G (s₁.setTop (mkF m 5 #[.val (.int x), .val (.int y)] []))
    refine go _ _ (fun _ k => XS.iloadN X0.here hx rfl (hb hby own_d8_5) rfl k) ?_
    show G (s₁.setTop (mkF m 6 #[.val (.int x), .val (.int y)] [(.int x)]))
    refine go _ _ (fun _ k => XS.goto X0.here hx rfl (pc0 := 6) (pc' := 10) rfl (hb hby own_d8_6) (by decide) (by decide) k) ?_
    show G (s₁.setTop (mkF m 10 #[.val (.int x), .val (.int y)] [(.int x)]))
    refine fin s₁ _ _ _ (some (.int x)) X0 (fun q => nomatch q) (by decide) (by decide) (by rw [e0]; exact ⟨N0, rfl, (Or.inr ⟨rfl, hc2_101⟩)⟩) _ (own_retI X0 hx hret (hb hby own_d8_10))
theorem own_pn2 : plainName "java/util/Arrays" = true := by decide +kernel
theorem own_d9_0 : decode jdk_65_method_123_code 0 = .ok (.iload_n 1, 1) := by decide +kernel
theorem own_d9_1 : decode jdk_65_method_123_code 1 = .ok (.aload_n 0, 1) := by decide +kernel
theorem own_d9_2 : decode jdk_65_method_123_code 2 = .ok (.arraylength, 1) := by decide +kernel
theorem own_d9_3 : decode jdk_65_method_123_code 3 = .ok (.if_icmp .ne 11, 3) := by decide +kernel
theorem own_d9_14 : decode jdk_65_method_123_code 14 = .ok (.iload_n 1, 1) := by decide +kernel
theorem own_d9_15 : decode jdk_65_method_123_code 15 = .ok (.newarray .int, 2) := by decide +kernel
theorem own_d9_17 : decode jdk_65_method_123_code 17 = .ok (.astore_n 2, 1) := by decide +kernel
theorem own_d9_18 : decode jdk_65_method_123_code 18 = .ok (.aload_n 0, 1) := by decide +kernel
theorem own_d9_19 : decode jdk_65_method_123_code 19 = .ok (.iconst 0, 1) := by decide +kernel
theorem own_d9_20 : decode jdk_65_method_123_code 20 = .ok (.aload_n 2, 1) := by decide +kernel
theorem own_d9_21 : decode jdk_65_method_123_code 21 = .ok (.iconst 0, 1) := by decide +kernel
theorem own_d9_22 : decode jdk_65_method_123_code 22 = .ok (.aload_n 0, 1) := by decide +kernel
theorem own_d9_23 : decode jdk_65_method_123_code 23 = .ok (.arraylength, 1) := by decide +kernel
theorem own_d9_24 : decode jdk_65_method_123_code 24 = .ok (.iload_n 1, 1) := by decide +kernel
theorem own_pd0 : parseMethodDescriptor "(II)I" = some ⟨[.int, .int], some .int⟩ := by decide +kernel
theorem own_d9_25 : decode jdk_65_method_123_code 25 = .ok (.invokestatic 304, 3) := by decide +kernel
theorem own_d9_28 : decode jdk_65_method_123_code 28 = .ok (.invokestatic 150, 3) := by decide +kernel
theorem own_d9_31 : decode jdk_65_method_123_code 31 = .ok (.aload_n 2, 1) := by decide +kernel
theorem own_d9_32 : decode jdk_65_method_123_code 32 = .ok (.areturn, 1) := by decide +kernel
set_option maxHeartbeats 4000000 in
theorem own_ef_rmCI0 (m : MethodId) (x0 : Addr) (x1 : Int32) : entryFrame m #[(.ref x0), (.int x1)] 3 = mkF m 0 #[.val (.ref x0), .val (.int x1), .unset] [] := by rfl
set_option maxRecDepth 65536 in
set_option maxHeartbeats 40000000 in
theorem rmCI0 (l : Launch) (Z : State) (a0 : Array Value) (hw : ∀ d ∈ tables_1, d.before a0 Z = true) (nk : Addr) (kk0 : ClassId) (O_nk : Sta Z Z.heap "com/example/hatoyama/hatoyama/IndexSet" "NO_KEYS" "[I" (.ref nk)) (V_nk : Arv Z Z.heap nk kk0 .int (0 : Int32) [] (.int (0 : Int32))) (nw : Addr) (kw0 : ClassId) (O_nw : Sta Z Z.heap "com/example/hatoyama/hatoyama/IndexSet" "NO_WORDS" "[J" (.ref nw)) (V_nw : Arv Z Z.heap nw kw0 .long (0 : Int32) [] (.long (0 : Int64))) (ws : List Jvm.Cond) (t : Addr) (kk : ClassId) (h0 : Heap) (n0 : Nat) (Z0 : n0 ≤ h0.size) (At : Arv Z h0 t kk .int (0 : Int32) [] (.int (0 : Int32))) :
    own_MetN l Z (⟨"java/util/Arrays", "copyOf", "([II)[I"⟩ : MethodName) jdk_65_method_123_code 3 (some (.array .int)) ws ({ frames := 1, cells := 1, slots := 1, locals := 27 } : Room) #[(.ref t), (.int (1 : Int32))] h0 (fun v h L => Fr n0 L ∧ Keep h0 h [] ∧ ((∃ (b : Addr) (kb : ClassId), (v = some (.ref b)) ∧ (h0.size ≤ b) ∧ (Arv Z h b kb .int (1 : Int32) [(.int (0 : Int32))] (.int (0 : Int32)))))) := by
  refine own_metN (plainFor_of_name own_pn2) ?_
  intro p e s m below meth c s₁ G hx hby hml hZ hown hnm hret X0 e0 go fin
  have N0 := Fr.nil n0
  refine go _ _ (fun _ k => castTop (own_ef_rmCI0 m t (1 : Int32)) k) ?_
  show G (s₁.setTop (mkF m 0 #[.val (.ref t), .val (.int (1 : Int32)), .unset] []))
  refine go _ _ (fun _ k => XS.iloadN X0.here hx rfl (hb hby own_d9_0) rfl (XS.aloadN X0.here hx rfl (hb hby own_d9_1) rfl rfl k)) ?_
  show G (s₁.setTop (mkF m 2 #[.val (.ref t), .val (.int (1 : Int32)), .unset] [(.ref t), (.int (1 : Int32))]))
  obtain ⟨cl101, Ar101, q101, S101, M101, H101, U101⟩ := id At
  refine go _ _ (fun _ k => X0.arraylength hx (by rw [e0]; exact Ar101.1) (State.isArrayOf_alike hZ.alike Ar101.2.1) (g := (mkF m 2 #[.val (.ref t), .val (.int (1 : Int32)), .unset] [(.ref t), (.int (1 : Int32))])) rfl rfl (hb hby own_d9_2) _ k) ?_
  show G (s₁.setTop (mkF m 3 #[.val (.ref t), .val (.int (1 : Int32)), .unset] [(.int cl101.slots.size.toInt32), (.int (1 : Int32))]))
  rw [len_of S101 M101]
  show G (s₁.setTop (mkF m 3 #[.val (.ref t), .val (.int (1 : Int32)), .unset] [(.int (0 : Int32)), (.int (1 : Int32))]))
  refine go _ _ (fun _ k => XS.icmpYes X0.here hx rfl (pc0 := 3) (pc' := 14) rfl (hb hby own_d9_3) rfl (by decide) (by decide) (by decide) k) ?_
  show G (s₁.setTop (mkF m 14 #[.val (.ref t), .val (.int (1 : Int32)), .unset] []))
  refine go _ _ (fun _ k => XS.iloadN X0.here hx rfl (hb hby own_d9_14) rfl k) ?_
  show G (s₁.setTop (mkF m 15 #[.val (.ref t), .val (.int (1 : Int32)), .unset] [(.int (1 : Int32))]))
  obtain ⟨T102, h102, k102, X102, e102, E102, A102, st102⟩ := newP X0 hx hZ (ow hw 49 rfl) e0 (g := (mkF m 15 #[.val (.ref t), .val (.int (1 : Int32)), .unset] [(.int (1 : Int32))])) rfl (hb hby own_d9_15) rfl (by decide) (cap := 1) (by decide) (by decide) (by decide) (by decide)
  obtain ⟨b102, g102⟩ : ∃ z, z = h0.size := ⟨_, rfl⟩
  rw [← g102] at A102 st102
  have V102 : Arv Z h102 b102 k102 .int (1 : Int32) [(.int (0 : Int32))] (.int (0 : Int32)) := (Arv.new A102 (by decide)).pad (pad_rep [] (.int (0 : Int32)) 1)
  refine go _ _ (st102) ?_
  show G (T102.setTop (mkF m 17 #[.val (.ref t), .val (.int (1 : Int32)), .unset] [(.ref b102)]))
  refine go _ _ (fun _ k => XS.astoreN X102.here hx rfl (hb hby own_d9_17) rfl rfl (l' := #[.val (.ref t), .val (.int (1 : Int32)), .val (.ref b102)]) rfl (XS.aloadN X102.here hx rfl (hb hby own_d9_18) rfl rfl (XS.iconst X102.here hx rfl (hb hby own_d9_19) (XS.aloadN X102.here hx rfl (hb hby own_d9_20) rfl rfl (XS.iconst X102.here hx rfl (hb hby own_d9_21) (XS.aloadN X102.here hx rfl (hb hby own_d9_22) rfl rfl k)))))) ?_
  show G (T102.setTop (mkF m 23 #[.val (.ref t), .val (.int (1 : Int32)), .val (.ref b102)] [(.ref t), (.int (0 : Int32)), (.ref b102), (.int (0 : Int32)), (.ref t)]))
  have K104 : Keep h0 h102 [] := (Keep.refl h0 []).ext E102
  have F105 : Arv Z h102 t kk .int (0 : Int32) [] (.int (0 : Int32)) := (At.keep K104 nin0)
  obtain ⟨cl103, Ar103, q103, S103, M103, H103, U103⟩ := id F105
  refine go _ _ (fun _ k => X102.arraylength hx (by rw [e102]; exact Ar103.1) (State.isArrayOf_alike hZ.alike Ar103.2.1) (g := (mkF m 23 #[.val (.ref t), .val (.int (1 : Int32)), .val (.ref b102)] [(.ref t), (.int (0 : Int32)), (.ref b102), (.int (0 : Int32)), (.ref t)])) rfl rfl (hb hby own_d9_23) _ k) ?_
  show G (T102.setTop (mkF m 24 #[.val (.ref t), .val (.int (1 : Int32)), .val (.ref b102)] [(.int cl103.slots.size.toInt32), (.int (0 : Int32)), (.ref b102), (.int (0 : Int32)), (.ref t)]))
  rw [len_of S103 M103]
  show G (T102.setTop (mkF m 24 #[.val (.ref t), .val (.int (1 : Int32)), .val (.ref b102)] [(.int (0 : Int32)), (.int (0 : Int32)), (.ref b102), (.int (0 : Int32)), (.ref t)]))
  refine go _ _ (fun _ k => XS.iloadN X102.here hx rfl (hb hby own_d9_24) rfl k) ?_
  show G (T102.setTop (mkF m 25 #[.val (.ref t), .val (.int (1 : Int32)), .val (.ref b102)] [(.int (1 : Int32)), (.int (0 : Int32)), (.int (0 : Int32)), (.ref b102), (.int (0 : Int32)), (.ref t)]))
  have Z107 : h0.size ≤ h102.size := E102.1
  obtain ⟨rv106, T106, L106, X106, q106, st106⟩ := own_st X102 hx hZ (y := (⟨"java/lang/Math", "min", "(II)I"⟩ : MethodName)) hown (ow hw 50 rfl) (ow hw 51 rfl) (ow hw 44 rfl) (ow hw 52 rfl) (by decide) (own_bkN (W := 4) (rm10 l Z a0 hw nk kk0 O_nk V_nk nw kw0 O_nw V_nw [] (0 : Int32) (1 : Int32) h102 n0 (Nat.le_trans Z0 Z107)) hZ (ow hw 52 rfl) (ow hw 44 rfl) (by decide) (by decide)) e102 (g := (mkF m 25 #[.val (.ref t), .val (.int (1 : Int32)), .val (.ref b102)] [(.int (1 : Int32)), (.int (0 : Int32)), (.int (0 : Int32)), (.ref b102), (.int (0 : Int32)), (.ref t)])) rfl (by rw [hml]; rfl) (argsL := [(.int (0 : Int32)), (.int (1 : Int32))]) (rest := [(.int (0 : Int32)), (.ref b102), (.int (0 : Int32)), (.ref t)]) rfl (lenOf own_pd0 rfl) rfl (by show 2 * 0 + _ ≤ _; exact Nat.le_of_eq rfl) (hb hby own_d9_25) (by decide) (by decide)
  obtain ⟨Nq106, e106, q106⟩ := q106
  have N106 := Fr.app N0 Nq106
  rcases q106 with ⟨rfl, p108⟩ | ⟨rfl, p109⟩
  · exact absurd p108 (by decide)
  · refine go _ _ (st106) ?_
    show G (T106.setTop (mkF m 28 #[.val (.ref t), .val (.int (1 : Int32)), .val (.ref b102)] [(.int (0 : Int32)), (.int (0 : Int32)), (.ref b102), (.int (0 : Int32)), (.ref t)]))
    obtain ⟨T110, h110, L110, X110, e110, N110, Kp110, V110, st110⟩ := cpA X106 hx hZ hown (ow hw 53 rfl) (ow hw 56 rfl) (ow hw 54 rfl) (ow hw 55 rfl) e106 F105 V102 (us := []) (Or.inl ⟨rfl, rfl⟩) (by decide) (by decide) (by decide) (by decide) (by decide) rfl (Nat.le_of_ble_eq_true rfl) N106 (Nat.le_trans Z0 (Nat.le_of_eq g102.symm)) (g := (mkF m 28 #[.val (.ref t), .val (.int (1 : Int32)), .val (.ref b102)] [(.int (0 : Int32)), (.int (0 : Int32)), (.ref b102), (.int (0 : Int32)), (.ref t)])) rfl (by rw [hml]; rfl) (rest := []) rfl (hb hby own_d9_28) (by decide) (W := 0) (by show 2 * 0 + _ ≤ _; exact Nat.le_of_eq rfl) (by decide)
    have Vq110 : Arv Z h110 b102 k102 .int (1 : Int32) [(.int (0 : Int32))] (.int (0 : Int32)) := V110
    refine go _ _ (st110) ?_
    show G (T110.setTop (mkF m 31 #[.val (.ref t), .val (.int (1 : Int32)), .val (.ref b102)] []))
    refine go _ _ (fun _ k => XS.aloadN X110.here hx rfl (hb hby own_d9_31) rfl rfl k) ?_
    show G (T110.setTop (mkF m 32 #[.val (.ref t), .val (.int (1 : Int32)), .val (.ref b102)] [(.ref b102)]))
    have K111 : Keep h0 h110 [] := K104.trans Kp110 (allS (Or.inr (Nat.le_of_eq g102.symm)) all0)
    refine fin T110 _ _ _ (some (.ref b102)) X110 (fun q => nomatch q) (by decide) (by decide) (by rw [e110]; exact ⟨N110, K111, ⟨b102, k102, rfl, (Nat.le_of_eq g102.symm), Vq110⟩⟩) _ (own_retA X110 hx hret rfl rfl rfl (hb hby own_d9_32))
theorem own_d11_0 : decode jdk_65_method_124_code 0 = .ok (.iload_n 1, 1) := by decide +kernel
theorem own_d11_1 : decode jdk_65_method_124_code 1 = .ok (.aload_n 0, 1) := by decide +kernel
theorem own_d11_2 : decode jdk_65_method_124_code 2 = .ok (.arraylength, 1) := by decide +kernel
theorem own_d11_3 : decode jdk_65_method_124_code 3 = .ok (.if_icmp .ne 11, 3) := by decide +kernel
theorem own_d11_14 : decode jdk_65_method_124_code 14 = .ok (.iload_n 1, 1) := by decide +kernel
theorem own_d11_15 : decode jdk_65_method_124_code 15 = .ok (.newarray .long, 2) := by decide +kernel
theorem own_d11_17 : decode jdk_65_method_124_code 17 = .ok (.astore_n 2, 1) := by decide +kernel
theorem own_d11_18 : decode jdk_65_method_124_code 18 = .ok (.aload_n 0, 1) := by decide +kernel
theorem own_d11_19 : decode jdk_65_method_124_code 19 = .ok (.iconst 0, 1) := by decide +kernel
theorem own_d11_20 : decode jdk_65_method_124_code 20 = .ok (.aload_n 2, 1) := by decide +kernel
theorem own_d11_21 : decode jdk_65_method_124_code 21 = .ok (.iconst 0, 1) := by decide +kernel
theorem own_d11_22 : decode jdk_65_method_124_code 22 = .ok (.aload_n 0, 1) := by decide +kernel
theorem own_d11_23 : decode jdk_65_method_124_code 23 = .ok (.arraylength, 1) := by decide +kernel
theorem own_d11_24 : decode jdk_65_method_124_code 24 = .ok (.iload_n 1, 1) := by decide +kernel
theorem own_d11_25 : decode jdk_65_method_124_code 25 = .ok (.invokestatic 304, 3) := by decide +kernel
theorem own_d11_28 : decode jdk_65_method_124_code 28 = .ok (.invokestatic 150, 3) := by decide +kernel
theorem own_d11_31 : decode jdk_65_method_124_code 31 = .ok (.aload_n 2, 1) := by decide +kernel
theorem own_d11_32 : decode jdk_65_method_124_code 32 = .ok (.areturn, 1) := by decide +kernel
set_option maxHeartbeats 4000000 in
theorem own_ef_rmCJ0 (m : MethodId) (x0 : Addr) (x1 : Int32) : entryFrame m #[(.ref x0), (.int x1)] 3 = mkF m 0 #[.val (.ref x0), .val (.int x1), .unset] [] := by rfl
set_option maxRecDepth 65536 in
set_option maxHeartbeats 40000000 in
theorem rmCJ0 (l : Launch) (Z : State) (a0 : Array Value) (hw : ∀ d ∈ tables_1, d.before a0 Z = true) (nk : Addr) (kk0 : ClassId) (O_nk : Sta Z Z.heap "com/example/hatoyama/hatoyama/IndexSet" "NO_KEYS" "[I" (.ref nk)) (V_nk : Arv Z Z.heap nk kk0 .int (0 : Int32) [] (.int (0 : Int32))) (nw : Addr) (kw0 : ClassId) (O_nw : Sta Z Z.heap "com/example/hatoyama/hatoyama/IndexSet" "NO_WORDS" "[J" (.ref nw)) (V_nw : Arv Z Z.heap nw kw0 .long (0 : Int32) [] (.long (0 : Int64))) (ws : List Jvm.Cond) (t : Addr) (kw : ClassId) (h0 : Heap) (n0 : Nat) (Z0 : n0 ≤ h0.size) (At : Arv Z h0 t kw .long (0 : Int32) [] (.long (0 : Int64))) :
    own_MetN l Z (⟨"java/util/Arrays", "copyOf", "([JI)[J"⟩ : MethodName) jdk_65_method_124_code 3 (some (.array .long)) ws ({ frames := 1, cells := 1, slots := 1, locals := 27 } : Room) #[(.ref t), (.int (1 : Int32))] h0 (fun v h L => Fr n0 L ∧ Keep h0 h [] ∧ ((∃ (b : Addr) (kb : ClassId), (v = some (.ref b)) ∧ (h0.size ≤ b) ∧ (Arv Z h b kb .long (1 : Int32) [(.long (0 : Int64))] (.long (0 : Int64)))))) := by
  refine own_metN (plainFor_of_name own_pn2) ?_
  intro p e s m below meth c s₁ G hx hby hml hZ hown hnm hret X0 e0 go fin
  have N0 := Fr.nil n0
  refine go _ _ (fun _ k => castTop (own_ef_rmCJ0 m t (1 : Int32)) k) ?_
  show G (s₁.setTop (mkF m 0 #[.val (.ref t), .val (.int (1 : Int32)), .unset] []))
  refine go _ _ (fun _ k => XS.iloadN X0.here hx rfl (hb hby own_d11_0) rfl (XS.aloadN X0.here hx rfl (hb hby own_d11_1) rfl rfl k)) ?_
  show G (s₁.setTop (mkF m 2 #[.val (.ref t), .val (.int (1 : Int32)), .unset] [(.ref t), (.int (1 : Int32))]))
  obtain ⟨cl101, Ar101, q101, S101, M101, H101, U101⟩ := id At
  refine go _ _ (fun _ k => X0.arraylength hx (by rw [e0]; exact Ar101.1) (State.isArrayOf_alike hZ.alike Ar101.2.1) (g := (mkF m 2 #[.val (.ref t), .val (.int (1 : Int32)), .unset] [(.ref t), (.int (1 : Int32))])) rfl rfl (hb hby own_d11_2) _ k) ?_
  show G (s₁.setTop (mkF m 3 #[.val (.ref t), .val (.int (1 : Int32)), .unset] [(.int cl101.slots.size.toInt32), (.int (1 : Int32))]))
  rw [len_of S101 M101]
  show G (s₁.setTop (mkF m 3 #[.val (.ref t), .val (.int (1 : Int32)), .unset] [(.int (0 : Int32)), (.int (1 : Int32))]))
  refine go _ _ (fun _ k => XS.icmpYes X0.here hx rfl (pc0 := 3) (pc' := 14) rfl (hb hby own_d11_3) rfl (by decide) (by decide) (by decide) k) ?_
  show G (s₁.setTop (mkF m 14 #[.val (.ref t), .val (.int (1 : Int32)), .unset] []))
  refine go _ _ (fun _ k => XS.iloadN X0.here hx rfl (hb hby own_d11_14) rfl k) ?_
  show G (s₁.setTop (mkF m 15 #[.val (.ref t), .val (.int (1 : Int32)), .unset] [(.int (1 : Int32))]))
  obtain ⟨T102, h102, k102, X102, e102, E102, A102, st102⟩ := newP X0 hx hZ (ow hw 60 rfl) e0 (g := (mkF m 15 #[.val (.ref t), .val (.int (1 : Int32)), .unset] [(.int (1 : Int32))])) rfl (hb hby own_d11_15) rfl (by decide) (cap := 1) (by decide) (by decide) (by decide) (by decide)
  obtain ⟨b102, g102⟩ : ∃ z, z = h0.size := ⟨_, rfl⟩
  rw [← g102] at A102 st102
  have V102 : Arv Z h102 b102 k102 .long (1 : Int32) [(.long (0 : Int64))] (.long (0 : Int64)) := (Arv.new A102 (by decide)).pad (pad_rep [] (.long (0 : Int64)) 1)
  refine go _ _ (st102) ?_
  show G (T102.setTop (mkF m 17 #[.val (.ref t), .val (.int (1 : Int32)), .unset] [(.ref b102)]))
  refine go _ _ (fun _ k => XS.astoreN X102.here hx rfl (hb hby own_d11_17) rfl rfl (l' := #[.val (.ref t), .val (.int (1 : Int32)), .val (.ref b102)]) rfl (XS.aloadN X102.here hx rfl (hb hby own_d11_18) rfl rfl (XS.iconst X102.here hx rfl (hb hby own_d11_19) (XS.aloadN X102.here hx rfl (hb hby own_d11_20) rfl rfl (XS.iconst X102.here hx rfl (hb hby own_d11_21) (XS.aloadN X102.here hx rfl (hb hby own_d11_22) rfl rfl k)))))) ?_
  show G (T102.setTop (mkF m 23 #[.val (.ref t), .val (.int (1 : Int32)), .val (.ref b102)] [(.ref t), (.int (0 : Int32)), (.ref b102), (.int (0 : Int32)), (.ref t)]))
  have K104 : Keep h0 h102 [] := (Keep.refl h0 []).ext E102
  have F105 : Arv Z h102 t kw .long (0 : Int32) [] (.long (0 : Int64)) := (At.keep K104 nin0)
  obtain ⟨cl103, Ar103, q103, S103, M103, H103, U103⟩ := id F105
  refine go _ _ (fun _ k => X102.arraylength hx (by rw [e102]; exact Ar103.1) (State.isArrayOf_alike hZ.alike Ar103.2.1) (g := (mkF m 23 #[.val (.ref t), .val (.int (1 : Int32)), .val (.ref b102)] [(.ref t), (.int (0 : Int32)), (.ref b102), (.int (0 : Int32)), (.ref t)])) rfl rfl (hb hby own_d11_23) _ k) ?_
  show G (T102.setTop (mkF m 24 #[.val (.ref t), .val (.int (1 : Int32)), .val (.ref b102)] [(.int cl103.slots.size.toInt32), (.int (0 : Int32)), (.ref b102), (.int (0 : Int32)), (.ref t)]))
  rw [len_of S103 M103]
  show G (T102.setTop (mkF m 24 #[.val (.ref t), .val (.int (1 : Int32)), .val (.ref b102)] [(.int (0 : Int32)), (.int (0 : Int32)), (.ref b102), (.int (0 : Int32)), (.ref t)]))
  refine go _ _ (fun _ k => XS.iloadN X102.here hx rfl (hb hby own_d11_24) rfl k) ?_
  show G (T102.setTop (mkF m 25 #[.val (.ref t), .val (.int (1 : Int32)), .val (.ref b102)] [(.int (1 : Int32)), (.int (0 : Int32)), (.int (0 : Int32)), (.ref b102), (.int (0 : Int32)), (.ref t)]))
  have Z107 : h0.size ≤ h102.size := E102.1
  obtain ⟨rv106, T106, L106, X106, q106, st106⟩ := own_st X102 hx hZ (y := (⟨"java/lang/Math", "min", "(II)I"⟩ : MethodName)) hown (ow hw 50 rfl) (ow hw 51 rfl) (ow hw 44 rfl) (ow hw 52 rfl) (by decide) (own_bkN (W := 4) (rm10 l Z a0 hw nk kk0 O_nk V_nk nw kw0 O_nw V_nw [] (0 : Int32) (1 : Int32) h102 n0 (Nat.le_trans Z0 Z107)) hZ (ow hw 52 rfl) (ow hw 44 rfl) (by decide) (by decide)) e102 (g := (mkF m 25 #[.val (.ref t), .val (.int (1 : Int32)), .val (.ref b102)] [(.int (1 : Int32)), (.int (0 : Int32)), (.int (0 : Int32)), (.ref b102), (.int (0 : Int32)), (.ref t)])) rfl (by rw [hml]; rfl) (argsL := [(.int (0 : Int32)), (.int (1 : Int32))]) (rest := [(.int (0 : Int32)), (.ref b102), (.int (0 : Int32)), (.ref t)]) rfl (lenOf own_pd0 rfl) rfl (by show 2 * 0 + _ ≤ _; exact Nat.le_of_eq rfl) (hb hby own_d11_25) (by decide) (by decide)
  obtain ⟨Nq106, e106, q106⟩ := q106
  have N106 := Fr.app N0 Nq106
  rcases q106 with ⟨rfl, p108⟩ | ⟨rfl, p109⟩
  · exact absurd p108 (by decide)
  · refine go _ _ (st106) ?_
    show G (T106.setTop (mkF m 28 #[.val (.ref t), .val (.int (1 : Int32)), .val (.ref b102)] [(.int (0 : Int32)), (.int (0 : Int32)), (.ref b102), (.int (0 : Int32)), (.ref t)]))
    obtain ⟨T110, h110, L110, X110, e110, N110, Kp110, V110, st110⟩ := cpA X106 hx hZ hown (ow hw 53 rfl) (ow hw 56 rfl) (ow hw 54 rfl) (ow hw 55 rfl) e106 F105 V102 (us := []) (Or.inl ⟨rfl, rfl⟩) (by decide) (by decide) (by decide) (by decide) (by decide) rfl (Nat.le_of_ble_eq_true rfl) N106 (Nat.le_trans Z0 (Nat.le_of_eq g102.symm)) (g := (mkF m 28 #[.val (.ref t), .val (.int (1 : Int32)), .val (.ref b102)] [(.int (0 : Int32)), (.int (0 : Int32)), (.ref b102), (.int (0 : Int32)), (.ref t)])) rfl (by rw [hml]; rfl) (rest := []) rfl (hb hby own_d11_28) (by decide) (W := 0) (by show 2 * 0 + _ ≤ _; exact Nat.le_of_eq rfl) (by decide)
    have Vq110 : Arv Z h110 b102 k102 .long (1 : Int32) [(.long (0 : Int64))] (.long (0 : Int64)) := V110
    refine go _ _ (st110) ?_
    show G (T110.setTop (mkF m 31 #[.val (.ref t), .val (.int (1 : Int32)), .val (.ref b102)] []))
    refine go _ _ (fun _ k => XS.aloadN X110.here hx rfl (hb hby own_d11_31) rfl rfl k) ?_
    show G (T110.setTop (mkF m 32 #[.val (.ref t), .val (.int (1 : Int32)), .val (.ref b102)] [(.ref b102)]))
    have K111 : Keep h0 h110 [] := K104.trans Kp110 (allS (Or.inr (Nat.le_of_eq g102.symm)) all0)
    refine fin T110 _ _ _ (some (.ref b102)) X110 (fun q => nomatch q) (by decide) (by decide) (by rw [e110]; exact ⟨N110, K111, ⟨b102, k102, rfl, (Nat.le_of_eq g102.symm), Vq110⟩⟩) _ (own_retA X110 hx hret rfl rfl rfl (hb hby own_d11_32))
theorem own_d6_0 : decode jdk_65_method_59_code 0 = .ok (.iload_n 1, 1) := by decide +kernel
theorem own_d6_1 : decode jdk_65_method_59_code 1 = .ok (.istore 4, 2) := by decide +kernel
theorem own_d6_3 : decode jdk_65_method_59_code 3 = .ok (.iload_n 2, 1) := by decide +kernel
theorem own_d6_4 : decode jdk_65_method_59_code 4 = .ok (.iconst 1, 1) := by decide +kernel
theorem own_d6_5 : decode jdk_65_method_59_code 5 = .ok (.isub, 1) := by decide +kernel
theorem own_d6_6 : decode jdk_65_method_59_code 6 = .ok (.istore 5, 2) := by decide +kernel
theorem own_d6_8 : decode jdk_65_method_59_code 8 = .ok (.iload 4, 2) := by decide +kernel
theorem own_d6_10 : decode jdk_65_method_59_code 10 = .ok (.iload 5, 2) := by decide +kernel
theorem own_d6_12 : decode jdk_65_method_59_code 12 = .ok (.if_icmp .gt 54, 3) := by decide +kernel
theorem own_d6_66 : decode jdk_65_method_59_code 66 = .ok (.iload 4, 2) := by decide +kernel
theorem own_d6_68 : decode jdk_65_method_59_code 68 = .ok (.iconst 1, 1) := by decide +kernel
theorem own_d6_69 : decode jdk_65_method_59_code 69 = .ok (.iadd, 1) := by decide +kernel
theorem own_d6_70 : decode jdk_65_method_59_code 70 = .ok (.ineg, 1) := by decide +kernel
theorem own_d6_71 : decode jdk_65_method_59_code 71 = .ok (.ireturn, 1) := by decide +kernel
set_option maxHeartbeats 4000000 in
theorem own_ef_rmBZ0 (m : MethodId) (x0 : Addr) (x1 : Int32) (x2 : Int32) (x3 : Int32) : entryFrame m #[(.ref x0), (.int x1), (.int x2), (.int x3)] 8 = mkF m 0 #[.val (.ref x0), .val (.int x1), .val (.int x2), .val (.int x3), .unset, .unset, .unset, .unset] [] := by rfl
set_option maxRecDepth 65536 in
set_option maxHeartbeats 40000000 in
theorem rmBZ0 (l : Launch) (Z : State) (a0 : Array Value) (hw : ∀ d ∈ tables_1, d.before a0 Z = true) (nk : Addr) (kk0 : ClassId) (O_nk : Sta Z Z.heap "com/example/hatoyama/hatoyama/IndexSet" "NO_KEYS" "[I" (.ref nk)) (V_nk : Arv Z Z.heap nk kk0 .int (0 : Int32) [] (.int (0 : Int32))) (nw : Addr) (kw0 : ClassId) (O_nw : Sta Z Z.heap "com/example/hatoyama/hatoyama/IndexSet" "NO_WORDS" "[J" (.ref nw)) (V_nw : Arv Z Z.heap nw kw0 .long (0 : Int32) [] (.long (0 : Int64))) (ws : List Jvm.Cond) (t : Addr) (q : Int32) (kk : ClassId) (h0 : Heap) (n0 : Nat) (Z0 : n0 ≤ h0.size) (At : Arv Z h0 t kk .int (0 : Int32) [] (.int (0 : Int32))) :
    own_MetN l Z (⟨"java/util/Arrays", "binarySearch0", "([IIII)I"⟩ : MethodName) jdk_65_method_59_code 8 (some .int) ws ({ frames := 0, cells := 0, slots := 0, locals := 0 } : Room) #[(.ref t), (.int (0 : Int32)), (.int (0 : Int32)), (.int q)] h0 (fun v h L => Fr n0 L ∧ h = h0 ∧ (((v = some (.int (-1 : Int32)))))) := by
  refine own_metN (plainFor_of_name own_pn2) ?_
  intro p e s m below meth c s₁ G hx hby hml hZ hown hnm hret X0 e0 go fin
  have N0 := Fr.nil n0
  refine go _ _ (fun _ k => castTop (own_ef_rmBZ0 m t (0 : Int32) (0 : Int32) q) k) ?_
  show G (s₁.setTop (mkF m 0 #[.val (.ref t), .val (.int (0 : Int32)), .val (.int (0 : Int32)), .val (.int q), .unset, .unset, .unset, .unset] []))
  refine go _ _ (fun _ k => XS.iloadN X0.here hx rfl (hb hby own_d6_0) rfl (XS.istore X0.here hx rfl (hb hby own_d6_1) rfl (l' := #[.val (.ref t), .val (.int (0 : Int32)), .val (.int (0 : Int32)), .val (.int q), .val (.int (0 : Int32)), .unset, .unset, .unset]) rfl (XS.iloadN X0.here hx rfl (hb hby own_d6_3) rfl (XS.iconst X0.here hx rfl (hb hby own_d6_4) (XS.isub X0.here hx rfl (hb hby own_d6_5) rfl (XS.istore X0.here hx rfl (hb hby own_d6_6) rfl (l' := #[.val (.ref t), .val (.int (0 : Int32)), .val (.int (0 : Int32)), .val (.int q), .val (.int (0 : Int32)), .val (.int (-1 : Int32)), .unset, .unset]) rfl k)))))) ?_
  show G (s₁.setTop (mkF m 8 #[.val (.ref t), .val (.int (0 : Int32)), .val (.int (0 : Int32)), .val (.int q), .val (.int (0 : Int32)), .val (.int (-1 : Int32)), .unset, .unset] []))
  refine go _ _ (fun _ k => XS.iload X0.here hx rfl (hb hby own_d6_8) rfl (XS.iload X0.here hx rfl (hb hby own_d6_10) rfl k)) ?_
  show G (s₁.setTop (mkF m 12 #[.val (.ref t), .val (.int (0 : Int32)), .val (.int (0 : Int32)), .val (.int q), .val (.int (0 : Int32)), .val (.int (-1 : Int32)), .unset, .unset] [(.int (-1 : Int32)), (.int (0 : Int32))]))
  refine go _ _ (fun _ k => XS.icmpYes X0.here hx rfl (pc0 := 12) (pc' := 66) rfl (hb hby own_d6_12) rfl (by decide) (by decide) (by decide) k) ?_
  show G (s₁.setTop (mkF m 66 #[.val (.ref t), .val (.int (0 : Int32)), .val (.int (0 : Int32)), .val (.int q), .val (.int (0 : Int32)), .val (.int (-1 : Int32)), .unset, .unset] []))
  refine go _ _ (fun _ k => XS.iload X0.here hx rfl (hb hby own_d6_66) rfl (XS.iconst X0.here hx rfl (hb hby own_d6_68) (XS.iadd X0.here hx rfl (hb hby own_d6_69) rfl (XS.ineg X0.here hx rfl (hb hby own_d6_70) rfl k)))) ?_
  show G (s₁.setTop (mkF m 71 #[.val (.ref t), .val (.int (0 : Int32)), .val (.int (0 : Int32)), .val (.int q), .val (.int (0 : Int32)), .val (.int (-1 : Int32)), .unset, .unset] [(.int (-1 : Int32))]))
  refine fin s₁ _ _ _ (some (.int (-1 : Int32))) X0 (fun q => nomatch q) (by decide) (by decide) (by rw [e0]; exact ⟨N0, rfl, rfl⟩) _ (own_retI X0 hx hret (hb hby own_d6_71))
theorem own_d5_0 : decode jdk_65_method_30_code 0 = .ok (.iload_n 1, 1) := by decide +kernel
theorem own_d5_1 : decode jdk_65_method_30_code 1 = .ok (.iload_n 2, 1) := by decide +kernel
theorem own_d5_2 : decode jdk_65_method_30_code 2 = .ok (.if_icmp .le 44, 3) := by decide +kernel
theorem own_d5_46 : decode jdk_65_method_30_code 46 = .ok (.iload_n 1, 1) := by decide +kernel
theorem own_d5_47 : decode jdk_65_method_30_code 47 = .ok (.ifCond .ge 12, 3) := by decide +kernel
theorem own_d5_59 : decode jdk_65_method_30_code 59 = .ok (.iload_n 2, 1) := by decide +kernel
theorem own_d5_60 : decode jdk_65_method_30_code 60 = .ok (.iload_n 0, 1) := by decide +kernel
theorem own_d5_61 : decode jdk_65_method_30_code 61 = .ok (.if_icmp .le 12, 3) := by decide +kernel
theorem own_d5_73 : decode jdk_65_method_30_code 73 = .ok (.return_, 1) := by decide +kernel
set_option maxHeartbeats 4000000 in
theorem own_ef_rmRC0 (m : MethodId) (x0 : Int32) (x1 : Int32) (x2 : Int32) : entryFrame m #[(.int x0), (.int x1), (.int x2)] 3 = mkF m 0 #[.val (.int x0), .val (.int x1), .val (.int x2)] [] := by rfl
set_option maxRecDepth 65536 in
set_option maxHeartbeats 40000000 in
theorem rmRC0 (l : Launch) (Z : State) (a0 : Array Value) (hw : ∀ d ∈ tables_1, d.before a0 Z = true) (nk : Addr) (kk0 : ClassId) (O_nk : Sta Z Z.heap "com/example/hatoyama/hatoyama/IndexSet" "NO_KEYS" "[I" (.ref nk)) (V_nk : Arv Z Z.heap nk kk0 .int (0 : Int32) [] (.int (0 : Int32))) (nw : Addr) (kw0 : ClassId) (O_nw : Sta Z Z.heap "com/example/hatoyama/hatoyama/IndexSet" "NO_WORDS" "[J" (.ref nw)) (V_nw : Arv Z Z.heap nw kw0 .long (0 : Int32) [] (.long (0 : Int64))) (ws : List Jvm.Cond) (h0 : Heap) (n0 : Nat) (Z0 : n0 ≤ h0.size) :
    own_MetN l Z (⟨"java/util/Arrays", "rangeCheck", "(III)V"⟩ : MethodName) jdk_65_method_30_code 3 none ws ({ frames := 0, cells := 0, slots := 0, locals := 0 } : Room) #[(.int (0 : Int32)), (.int (0 : Int32)), (.int (0 : Int32))] h0 (fun v h L => Fr n0 L ∧ h = h0 ∧ (((v = none)))) := by
  refine own_metN (plainFor_of_name own_pn2) ?_
  intro p e s m below meth c s₁ G hx hby hml hZ hown hnm hret X0 e0 go fin
  have N0 := Fr.nil n0
  refine go _ _ (fun _ k => castTop (own_ef_rmRC0 m (0 : Int32) (0 : Int32) (0 : Int32)) k) ?_
  show G (s₁.setTop (mkF m 0 #[.val (.int (0 : Int32)), .val (.int (0 : Int32)), .val (.int (0 : Int32))] []))
  refine go _ _ (fun _ k => XS.iloadN X0.here hx rfl (hb hby own_d5_0) rfl (XS.iloadN X0.here hx rfl (hb hby own_d5_1) rfl k)) ?_
  show G (s₁.setTop (mkF m 2 #[.val (.int (0 : Int32)), .val (.int (0 : Int32)), .val (.int (0 : Int32))] [(.int (0 : Int32)), (.int (0 : Int32))]))
  refine go _ _ (fun _ k => XS.icmpYes X0.here hx rfl (pc0 := 2) (pc' := 46) rfl (hb hby own_d5_2) rfl (by decide) (by decide) (by decide) k) ?_
  show G (s₁.setTop (mkF m 46 #[.val (.int (0 : Int32)), .val (.int (0 : Int32)), .val (.int (0 : Int32))] []))
  refine go _ _ (fun _ k => XS.iloadN X0.here hx rfl (hb hby own_d5_46) rfl k) ?_
  show G (s₁.setTop (mkF m 47 #[.val (.int (0 : Int32)), .val (.int (0 : Int32)), .val (.int (0 : Int32))] [(.int (0 : Int32))]))
  refine go _ _ (fun _ k => XS.ifYes X0.here hx rfl (pc0 := 47) (pc' := 59) rfl (hb hby own_d5_47) rfl (by decide) (by decide) (by decide) k) ?_
  show G (s₁.setTop (mkF m 59 #[.val (.int (0 : Int32)), .val (.int (0 : Int32)), .val (.int (0 : Int32))] []))
  refine go _ _ (fun _ k => XS.iloadN X0.here hx rfl (hb hby own_d5_59) rfl (XS.iloadN X0.here hx rfl (hb hby own_d5_60) rfl k)) ?_
  show G (s₁.setTop (mkF m 61 #[.val (.int (0 : Int32)), .val (.int (0 : Int32)), .val (.int (0 : Int32))] [(.int (0 : Int32)), (.int (0 : Int32))]))
  refine go _ _ (fun _ k => XS.icmpYes X0.here hx rfl (pc0 := 61) (pc' := 73) rfl (hb hby own_d5_61) rfl (by decide) (by decide) (by decide) k) ?_
  show G (s₁.setTop (mkF m 73 #[.val (.int (0 : Int32)), .val (.int (0 : Int32)), .val (.int (0 : Int32))] []))
  refine fin s₁ _ _ _ none X0 (fun _ => rfl) (by decide) (by decide) (by rw [e0]; exact ⟨N0, rfl, rfl⟩) _ (own_retV X0 hx hret (hb hby own_d5_73))
theorem own_d4_0 : decode jdk_65_method_58_code 0 = .ok (.aload_n 0, 1) := by decide +kernel
theorem own_d4_1 : decode jdk_65_method_58_code 1 = .ok (.arraylength, 1) := by decide +kernel
theorem own_d4_2 : decode jdk_65_method_58_code 2 = .ok (.iload_n 1, 1) := by decide +kernel
theorem own_d4_3 : decode jdk_65_method_58_code 3 = .ok (.iload_n 2, 1) := by decide +kernel
theorem own_pd1 : parseMethodDescriptor "(III)V" = some ⟨[.int, .int, .int], none⟩ := by decide +kernel
theorem own_d4_4 : decode jdk_65_method_58_code 4 = .ok (.invokestatic 13, 3) := by decide +kernel
theorem own_d4_7 : decode jdk_65_method_58_code 7 = .ok (.aload_n 0, 1) := by decide +kernel
theorem own_d4_8 : decode jdk_65_method_58_code 8 = .ok (.iload_n 1, 1) := by decide +kernel
theorem own_d4_9 : decode jdk_65_method_58_code 9 = .ok (.iload_n 2, 1) := by decide +kernel
theorem own_d4_10 : decode jdk_65_method_58_code 10 = .ok (.iload_n 3, 1) := by decide +kernel
theorem own_pd2 : parseMethodDescriptor "([IIII)I" = some ⟨[(.array .int), .int, .int, .int], some .int⟩ := by decide +kernel
theorem own_d4_11 : decode jdk_65_method_58_code 11 = .ok (.invokestatic 209, 3) := by decide +kernel
theorem own_d4_14 : decode jdk_65_method_58_code 14 = .ok (.ireturn, 1) := by decide +kernel
set_option maxHeartbeats 4000000 in
theorem own_ef_rmBS0 (m : MethodId) (x0 : Addr) (x1 : Int32) (x2 : Int32) (x3 : Int32) : entryFrame m #[(.ref x0), (.int x1), (.int x2), (.int x3)] 4 = mkF m 0 #[.val (.ref x0), .val (.int x1), .val (.int x2), .val (.int x3)] [] := by rfl
set_option maxRecDepth 65536 in
set_option maxHeartbeats 40000000 in
theorem rmBS0 (l : Launch) (Z : State) (a0 : Array Value) (hw : ∀ d ∈ tables_1, d.before a0 Z = true) (nk : Addr) (kk0 : ClassId) (O_nk : Sta Z Z.heap "com/example/hatoyama/hatoyama/IndexSet" "NO_KEYS" "[I" (.ref nk)) (V_nk : Arv Z Z.heap nk kk0 .int (0 : Int32) [] (.int (0 : Int32))) (nw : Addr) (kw0 : ClassId) (O_nw : Sta Z Z.heap "com/example/hatoyama/hatoyama/IndexSet" "NO_WORDS" "[J" (.ref nw)) (V_nw : Arv Z Z.heap nw kw0 .long (0 : Int32) [] (.long (0 : Int64))) (ws : List Jvm.Cond) (t : Addr) (q : Int32) (kk : ClassId) (h0 : Heap) (n0 : Nat) (Z0 : n0 ≤ h0.size) (At : Arv Z h0 t kk .int (0 : Int32) [] (.int (0 : Int32))) :
    own_MetN l Z (⟨"java/util/Arrays", "binarySearch", "([IIII)I"⟩ : MethodName) jdk_65_method_58_code 4 (some .int) ws ({ frames := 1, cells := 0, slots := 0, locals := 19 } : Room) #[(.ref t), (.int (0 : Int32)), (.int (0 : Int32)), (.int q)] h0 (fun v h L => Fr n0 L ∧ h = h0 ∧ (((v = some (.int (-1 : Int32)))))) := by
  refine own_metN (plainFor_of_name own_pn2) ?_
  intro p e s m below meth c s₁ G hx hby hml hZ hown hnm hret X0 e0 go fin
  have N0 := Fr.nil n0
  refine go _ _ (fun _ k => castTop (own_ef_rmBS0 m t (0 : Int32) (0 : Int32) q) k) ?_
  show G (s₁.setTop (mkF m 0 #[.val (.ref t), .val (.int (0 : Int32)), .val (.int (0 : Int32)), .val (.int q)] []))
  refine go _ _ (fun _ k => XS.aloadN X0.here hx rfl (hb hby own_d4_0) rfl rfl k) ?_
  show G (s₁.setTop (mkF m 1 #[.val (.ref t), .val (.int (0 : Int32)), .val (.int (0 : Int32)), .val (.int q)] [(.ref t)]))
  obtain ⟨cl101, Ar101, q101, S101, M101, H101, U101⟩ := id At
  refine go _ _ (fun _ k => X0.arraylength hx (by rw [e0]; exact Ar101.1) (State.isArrayOf_alike hZ.alike Ar101.2.1) (g := (mkF m 1 #[.val (.ref t), .val (.int (0 : Int32)), .val (.int (0 : Int32)), .val (.int q)] [(.ref t)])) rfl rfl (hb hby own_d4_1) _ k) ?_
  show G (s₁.setTop (mkF m 2 #[.val (.ref t), .val (.int (0 : Int32)), .val (.int (0 : Int32)), .val (.int q)] [(.int cl101.slots.size.toInt32)]))
  rw [len_of S101 M101]
  show G (s₁.setTop (mkF m 2 #[.val (.ref t), .val (.int (0 : Int32)), .val (.int (0 : Int32)), .val (.int q)] [(.int (0 : Int32))]))
  refine go _ _ (fun _ k => XS.iloadN X0.here hx rfl (hb hby own_d4_2) rfl (XS.iloadN X0.here hx rfl (hb hby own_d4_3) rfl k)) ?_
  show G (s₁.setTop (mkF m 4 #[.val (.ref t), .val (.int (0 : Int32)), .val (.int (0 : Int32)), .val (.int q)] [(.int (0 : Int32)), (.int (0 : Int32)), (.int (0 : Int32))]))
  obtain ⟨rv102, T102, L102, X102, q102, st102⟩ := own_st X0 hx hZ (y := (⟨"java/util/Arrays", "rangeCheck", "(III)V"⟩ : MethodName)) hown (ow hw 32 rfl) (ow hw 33 rfl) (ow hw 30 rfl) (ow hw 34 rfl) (by decide) (own_bkN (W := 0) (rmRC0 l Z a0 hw nk kk0 O_nk V_nk nw kw0 O_nw V_nw [] h0 n0 Z0) hZ (ow hw 34 rfl) (ow hw 30 rfl) (by decide) (by decide)) e0 (g := (mkF m 4 #[.val (.ref t), .val (.int (0 : Int32)), .val (.int (0 : Int32)), .val (.int q)] [(.int (0 : Int32)), (.int (0 : Int32)), (.int (0 : Int32))])) rfl (by rw [hml]; rfl) (argsL := [(.int (0 : Int32)), (.int (0 : Int32)), (.int (0 : Int32))]) (rest := []) rfl (lenOf own_pd1 rfl) rfl (by show 2 * 0 + _ ≤ _; exact Nat.le_of_eq rfl) (hb hby own_d4_4) (by decide) (by decide)
  obtain ⟨Nq102, e102, rfl⟩ := q102
  have N102 := Fr.app N0 Nq102
  refine go _ _ (st102) ?_
  show G (T102.setTop (mkF m 7 #[.val (.ref t), .val (.int (0 : Int32)), .val (.int (0 : Int32)), .val (.int q)] []))
  refine go _ _ (fun _ k => XS.aloadN X102.here hx rfl (hb hby own_d4_7) rfl rfl (XS.iloadN X102.here hx rfl (hb hby own_d4_8) rfl (XS.iloadN X102.here hx rfl (hb hby own_d4_9) rfl (XS.iloadN X102.here hx rfl (hb hby own_d4_10) rfl k)))) ?_
  show G (T102.setTop (mkF m 11 #[.val (.ref t), .val (.int (0 : Int32)), .val (.int (0 : Int32)), .val (.int q)] [(.int q), (.int (0 : Int32)), (.int (0 : Int32)), (.ref t)]))
  obtain ⟨rv103, T103, L103, X103, q103, st103⟩ := own_st X102 hx hZ (y := (⟨"java/util/Arrays", "binarySearch0", "([IIII)I"⟩ : MethodName)) hown (ow hw 35 rfl) (ow hw 36 rfl) (ow hw 30 rfl) (ow hw 37 rfl) (by decide) (own_bkN (W := 0) (rmBZ0 l Z a0 hw nk kk0 O_nk V_nk nw kw0 O_nw V_nw [] t q kk h0 n0 Z0 At) hZ (ow hw 37 rfl) (ow hw 30 rfl) (by decide) (by decide)) e102 (g := (mkF m 11 #[.val (.ref t), .val (.int (0 : Int32)), .val (.int (0 : Int32)), .val (.int q)] [(.int q), (.int (0 : Int32)), (.int (0 : Int32)), (.ref t)])) rfl (by rw [hml]; rfl) (argsL := [(.ref t), (.int (0 : Int32)), (.int (0 : Int32)), (.int q)]) (rest := []) rfl (lenOf own_pd2 rfl) rfl (by show 2 * 0 + _ ≤ _; exact Nat.le_of_eq rfl) (hb hby own_d4_11) (by decide) (by decide)
  obtain ⟨Nq103, e103, rfl⟩ := q103
  have N103 := Fr.app N102 Nq103
  refine go _ _ (st103) ?_
  show G (T103.setTop (mkF m 14 #[.val (.ref t), .val (.int (0 : Int32)), .val (.int (0 : Int32)), .val (.int q)] [(.int (-1 : Int32))]))
  refine fin T103 _ _ _ (some (.int (-1 : Int32))) X103 (fun q => nomatch q) (by decide) (by decide) (by rw [e103]; exact ⟨N103, rfl, rfl⟩) _ (own_retI X103 hx hret (hb hby own_d4_14))
theorem own_d7_0 : decode prog_3_method_10_code 0 = .ok (.iload_n 1, 1) := by decide +kernel
theorem own_d7_1 : decode prog_3_method_10_code 1 = .ok (.aload_n 0, 1) := by decide +kernel
theorem own_d7_2 : decode prog_3_method_10_code 2 = .ok (.getfield 13, 3) := by decide +kernel
theorem own_d7_5 : decode prog_3_method_10_code 5 = .ok (.arraylength, 1) := by decide +kernel
theorem own_d7_6 : decode prog_3_method_10_code 6 = .ok (.if_icmp .le 43, 3) := by decide +kernel
theorem own_d7_9 : decode prog_3_method_10_code 9 = .ok (.iload_n 1, 1) := by decide +kernel
theorem own_d7_10 : decode prog_3_method_10_code 10 = .ok (.aload_n 0, 1) := by decide +kernel
theorem own_d7_11 : decode prog_3_method_10_code 11 = .ok (.getfield 24, 3) := by decide +kernel
theorem own_d7_14 : decode prog_3_method_10_code 14 = .ok (.aload_n 0, 1) := by decide +kernel
theorem own_d7_15 : decode prog_3_method_10_code 15 = .ok (.getfield 24, 3) := by decide +kernel
theorem own_d7_18 : decode prog_3_method_10_code 18 = .ok (.iconst 1, 1) := by decide +kernel
theorem own_d7_19 : decode prog_3_method_10_code 19 = .ok (.ishr, 1) := by decide +kernel
theorem own_d7_20 : decode prog_3_method_10_code 20 = .ok (.iadd, 1) := by decide +kernel
theorem own_d7_21 : decode prog_3_method_10_code 21 = .ok (.invokestatic 61, 3) := by decide +kernel
theorem own_d7_24 : decode prog_3_method_10_code 24 = .ok (.istore_n 2, 1) := by decide +kernel
theorem own_d7_25 : decode prog_3_method_10_code 25 = .ok (.aload_n 0, 1) := by decide +kernel
theorem own_d7_26 : decode prog_3_method_10_code 26 = .ok (.aload_n 0, 1) := by decide +kernel
theorem own_d7_27 : decode prog_3_method_10_code 27 = .ok (.getfield 13, 3) := by decide +kernel
theorem own_d7_30 : decode prog_3_method_10_code 30 = .ok (.iload_n 2, 1) := by decide +kernel
theorem own_pd3 : parseMethodDescriptor "([II)[I" = some ⟨[(.array .int), .int], some (.array .int)⟩ := by decide +kernel
theorem own_d7_31 : decode prog_3_method_10_code 31 = .ok (.invokestatic 28, 3) := by decide +kernel
theorem own_d7_34 : decode prog_3_method_10_code 34 = .ok (.putfield 13, 3) := by decide +kernel
theorem own_d7_37 : decode prog_3_method_10_code 37 = .ok (.aload_n 0, 1) := by decide +kernel
theorem own_d7_38 : decode prog_3_method_10_code 38 = .ok (.aload_n 0, 1) := by decide +kernel
theorem own_d7_39 : decode prog_3_method_10_code 39 = .ok (.getfield 20, 3) := by decide +kernel
theorem own_d7_42 : decode prog_3_method_10_code 42 = .ok (.iload_n 2, 1) := by decide +kernel
theorem own_pd4 : parseMethodDescriptor "([JI)[J" = some ⟨[(.array .long), .int], some (.array .long)⟩ := by decide +kernel
theorem own_d7_43 : decode prog_3_method_10_code 43 = .ok (.invokestatic 34, 3) := by decide +kernel
theorem own_d7_46 : decode prog_3_method_10_code 46 = .ok (.putfield 20, 3) := by decide +kernel
theorem own_d7_49 : decode prog_3_method_10_code 49 = .ok (.return_, 1) := by decide +kernel
set_option maxHeartbeats 4000000 in
theorem own_ef_rmRoom0 (m : MethodId) (x0 : Addr) (x1 : Int32) : entryFrame m #[(.ref x0), (.int x1)] 3 = mkF m 0 #[.val (.ref x0), .val (.int x1), .unset] [] := by rfl
set_option maxRecDepth 65536 in
set_option maxHeartbeats 40000000 in
theorem rmRoom0 (l : Launch) (Z : State) (a0 : Array Value) (hw : ∀ d ∈ tables_1, d.before a0 Z = true) (nk : Addr) (kk0 : ClassId) (O_nk : Sta Z Z.heap "com/example/hatoyama/hatoyama/IndexSet" "NO_KEYS" "[I" (.ref nk)) (V_nk : Arv Z Z.heap nk kk0 .int (0 : Int32) [] (.int (0 : Int32))) (nw : Addr) (kw0 : ClassId) (O_nw : Sta Z Z.heap "com/example/hatoyama/hatoyama/IndexSet" "NO_WORDS" "[J" (.ref nw)) (V_nw : Arv Z Z.heap nw kw0 .long (0 : Int32) [] (.long (0 : Int64))) (ws : List Jvm.Cond) (a : Addr) (h0 : Heap) (n0 : Nat) (Z0 : n0 ≤ h0.size) (Xo : Old Z n0 h0) (Ea : Exa Z h0 a "com/example/hatoyama/hatoyama/IndexSet") (Fk : Fld Z h0 a "com/example/hatoyama/hatoyama/IndexSet" "keys" "[I" (.ref nk)) (Fw : Fld Z h0 a "com/example/hatoyama/hatoyama/IndexSet" "words" "[J" (.ref nw)) (Fu : Fld Z h0 a "com/example/hatoyama/hatoyama/IndexSet" "used" "I" (.int (0 : Int32))) (gz_a : n0 ≤ a) :
    own_MetN l Z (⟨"com/example/hatoyama/hatoyama/IndexSet", "room", "(I)V"⟩ : MethodName) prog_3_method_10_code 3 none ws ({ frames := 2, cells := 2, slots := 2, locals := 42 } : Room) #[(.ref a), (.int (1 : Int32))] h0 (fun v h L => Fr n0 L ∧ Keep h0 h [a] ∧ ((∃ (kt2 : Addr) (wt2 : Addr) (kk2 : ClassId) (kw2 : ClassId), (v = none) ∧ (h0.size ≤ kt2) ∧ (h0.size ≤ wt2) ∧ (Exa Z h a "com/example/hatoyama/hatoyama/IndexSet") ∧ (Fld Z h a "com/example/hatoyama/hatoyama/IndexSet" "used" "I" (.int (0 : Int32))) ∧ (Fld Z h a "com/example/hatoyama/hatoyama/IndexSet" "keys" "[I" (.ref kt2)) ∧ (Fld Z h a "com/example/hatoyama/hatoyama/IndexSet" "words" "[J" (.ref wt2)) ∧ (Arv Z h kt2 kk2 .int (1 : Int32) [(.int (0 : Int32))] (.int (0 : Int32))) ∧ (Arv Z h wt2 kw2 .long (1 : Int32) [(.long (0 : Int64))] (.long (0 : Int64)))))) := by
  refine own_metN (plainFor_of_name own_pn0) ?_
  intro p e s m below meth c s₁ G hx hby hml hZ hown hnm hret X0 e0 go fin
  have N0 := Fr.nil n0
  refine go _ _ (fun _ k => castTop (own_ef_rmRoom0 m a (1 : Int32)) k) ?_
  show G (s₁.setTop (mkF m 0 #[.val (.ref a), .val (.int (1 : Int32)), .unset] []))
  refine go _ _ (fun _ k => XS.iloadN X0.here hx rfl (hb hby own_d7_0) rfl (XS.aloadN X0.here hx rfl (hb hby own_d7_1) rfl rfl k)) ?_
  show G (s₁.setTop (mkF m 2 #[.val (.ref a), .val (.int (1 : Int32)), .unset] [(.ref a), (.int (1 : Int32))]))
  obtain ⟨T101, X101, e101, st101⟩ := getF X0 hx hZ hown (host := "") (Or.inl (ow hw 11 rfl)) Via.refl e0 Fk (g := (mkF m 2 #[.val (.ref a), .val (.int (1 : Int32)), .unset] [(.ref a), (.int (1 : Int32))])) rfl rfl (hb hby own_d7_2)
  refine go _ _ (st101) ?_
  show G (T101.setTop (mkF m 5 #[.val (.ref a), .val (.int (1 : Int32)), .unset] [(.ref nk), (.int (1 : Int32))]))
  obtain ⟨cl102, Ar102, q102, S102, M102, H102, U102⟩ := id (V_nk.ext Xo.2)
  refine go _ _ (fun _ k => X101.arraylength hx (by rw [e101]; exact Ar102.1) (State.isArrayOf_alike hZ.alike Ar102.2.1) (g := (mkF m 5 #[.val (.ref a), .val (.int (1 : Int32)), .unset] [(.ref nk), (.int (1 : Int32))])) rfl rfl (hb hby own_d7_5) _ k) ?_
  show G (T101.setTop (mkF m 6 #[.val (.ref a), .val (.int (1 : Int32)), .unset] [(.int cl102.slots.size.toInt32), (.int (1 : Int32))]))
  rw [len_of S102 M102]
  show G (T101.setTop (mkF m 6 #[.val (.ref a), .val (.int (1 : Int32)), .unset] [(.int (0 : Int32)), (.int (1 : Int32))]))
  refine go _ _ (fun _ k => XS.icmpNo X101.here hx rfl (hb hby own_d7_6) rfl (by decide) k) ?_
  show G (T101.setTop (mkF m 9 #[.val (.ref a), .val (.int (1 : Int32)), .unset] []))
  refine go _ _ (fun _ k => XS.iloadN X101.here hx rfl (hb hby own_d7_9) rfl (XS.aloadN X101.here hx rfl (hb hby own_d7_10) rfl rfl k)) ?_
  show G (T101.setTop (mkF m 11 #[.val (.ref a), .val (.int (1 : Int32)), .unset] [(.ref a), (.int (1 : Int32))]))
  obtain ⟨T103, X103, e103, st103⟩ := getF X101 hx hZ hown (host := "") (Or.inl (ow hw 26 rfl)) Via.refl e101 Fu (g := (mkF m 11 #[.val (.ref a), .val (.int (1 : Int32)), .unset] [(.ref a), (.int (1 : Int32))])) rfl rfl (hb hby own_d7_11)
  refine go _ _ (st103) ?_
  show G (T103.setTop (mkF m 14 #[.val (.ref a), .val (.int (1 : Int32)), .unset] [(.int (0 : Int32)), (.int (1 : Int32))]))
  refine go _ _ (fun _ k => XS.aloadN X103.here hx rfl (hb hby own_d7_14) rfl rfl k) ?_
  show G (T103.setTop (mkF m 15 #[.val (.ref a), .val (.int (1 : Int32)), .unset] [(.ref a), (.int (0 : Int32)), (.int (1 : Int32))]))
  obtain ⟨T104, X104, e104, st104⟩ := getF X103 hx hZ hown (host := "") (Or.inl (ow hw 26 rfl)) Via.refl e103 Fu (g := (mkF m 15 #[.val (.ref a), .val (.int (1 : Int32)), .unset] [(.ref a), (.int (0 : Int32)), (.int (1 : Int32))])) rfl rfl (hb hby own_d7_15)
  refine go _ _ (st104) ?_
  show G (T104.setTop (mkF m 18 #[.val (.ref a), .val (.int (1 : Int32)), .unset] [(.int (0 : Int32)), (.int (0 : Int32)), (.int (1 : Int32))]))
  refine go _ _ (fun _ k => XS.iconst X104.here hx rfl (hb hby own_d7_18) (XS.ishr X104.here hx rfl (hb hby own_d7_19) rfl (XS.iadd X104.here hx rfl (hb hby own_d7_20) rfl k))) ?_
  show G (T104.setTop (mkF m 21 #[.val (.ref a), .val (.int (1 : Int32)), .unset] [(.int (0 : Int32)), (.int (1 : Int32))]))
  obtain ⟨rv105, T105, L105, X105, q105, st105⟩ := own_st X104 hx hZ (y := (⟨"java/lang/Math", "max", "(II)I"⟩ : MethodName)) hown (ow hw 42 rfl) (ow hw 43 rfl) (ow hw 44 rfl) (ow hw 45 rfl) (by decide) (own_bkN (W := 0) (rm8 l Z a0 hw nk kk0 O_nk V_nk nw kw0 O_nw V_nw [] (1 : Int32) (0 : Int32) h0 n0 Z0) hZ (ow hw 45 rfl) (ow hw 44 rfl) (by decide) (by decide)) e104 (g := (mkF m 21 #[.val (.ref a), .val (.int (1 : Int32)), .unset] [(.int (0 : Int32)), (.int (1 : Int32))])) rfl (by rw [hml]; rfl) (argsL := [(.int (1 : Int32)), (.int (0 : Int32))]) (rest := []) rfl (lenOf own_pd0 rfl) rfl (by show 2 * 0 + _ ≤ _; exact Nat.le_of_eq rfl) (hb hby own_d7_21) (by decide) (by decide)
  obtain ⟨Nq105, e105, q105⟩ := q105
  have N105 := Fr.app N0 Nq105
  rcases q105 with ⟨rfl, p106⟩ | ⟨rfl, p107⟩
  · exact absurd p106 (by decide)
  · refine go _ _ (st105) ?_
    show G (T105.setTop (mkF m 24 #[.val (.ref a), .val (.int (1 : Int32)), .unset] [(.int (1 : Int32))]))
    refine go _ _ (fun _ k => XS.istoreN X105.here hx rfl (hb hby own_d7_24) rfl (l' := #[.val (.ref a), .val (.int (1 : Int32)), .val (.int (1 : Int32))]) rfl (XS.aloadN X105.here hx rfl (hb hby own_d7_25) rfl rfl (XS.aloadN X105.here hx rfl (hb hby own_d7_26) rfl rfl k))) ?_
    show G (T105.setTop (mkF m 27 #[.val (.ref a), .val (.int (1 : Int32)), .val (.int (1 : Int32))] [(.ref a), (.ref a)]))
    obtain ⟨T108, X108, e108, st108⟩ := getF X105 hx hZ hown (host := "") (Or.inl (ow hw 11 rfl)) Via.refl e105 Fk (g := (mkF m 27 #[.val (.ref a), .val (.int (1 : Int32)), .val (.int (1 : Int32))] [(.ref a), (.ref a)])) rfl rfl (hb hby own_d7_27)
    refine go _ _ (st108) ?_
    show G (T108.setTop (mkF m 30 #[.val (.ref a), .val (.int (1 : Int32)), .val (.int (1 : Int32))] [(.ref nk), (.ref a)]))
    refine go _ _ (fun _ k => XS.iloadN X108.here hx rfl (hb hby own_d7_30) rfl k) ?_
    show G (T108.setTop (mkF m 31 #[.val (.ref a), .val (.int (1 : Int32)), .val (.int (1 : Int32))] [(.int (1 : Int32)), (.ref nk), (.ref a)]))
    obtain ⟨rv109, T109, L109, X109, q109, st109⟩ := own_st X108 hx hZ (y := (⟨"java/util/Arrays", "copyOf", "([II)[I"⟩ : MethodName)) hown (ow hw 46 rfl) (ow hw 47 rfl) (ow hw 30 rfl) (ow hw 48 rfl) (by decide) (own_bkN (W := 1) (rmCI0 l Z a0 hw nk kk0 O_nk V_nk nw kw0 O_nw V_nw [] nk kk0 h0 n0 Z0 (V_nk.ext Xo.2)) hZ (ow hw 48 rfl) (ow hw 30 rfl) (by decide) (by decide)) e108 (g := (mkF m 31 #[.val (.ref a), .val (.int (1 : Int32)), .val (.int (1 : Int32))] [(.int (1 : Int32)), (.ref nk), (.ref a)])) rfl (by rw [hml]; rfl) (argsL := [(.ref nk), (.int (1 : Int32))]) (rest := [(.ref a)]) rfl (lenOf own_pd3 rfl) rfl (by show 2 * 0 + _ ≤ _; exact Nat.le_of_eq rfl) (hb hby own_d7_31) (by decide) (by decide)
    obtain ⟨Nq109, Kp109, ⟨b_110, kb_111, rfl, z112, f113⟩⟩ := q109
    have N109 := Fr.app N105 Nq109
    refine go _ _ (st109) ?_
    show G (T109.setTop (mkF m 34 #[.val (.ref a), .val (.int (1 : Int32)), .val (.int (1 : Int32))] [(.ref b_110), (.ref a)]))
    have K115 : Keep h0 T109.heap [] := (Keep.refl h0 []).trans Kp109 all0
    have F116 : Fld Z T109.heap a "com/example/hatoyama/hatoyama/IndexSet" "keys" "[I" (.ref nk) := (Fk.keep K115 nin0)
    have F117 : Exa Z T109.heap a "com/example/hatoyama/hatoyama/IndexSet" := (Ea.keep K115)
    obtain ⟨T114, h114, X114, e114, W114, st114⟩ := putF X109 hx hZ hown (host := "") (Or.inl (ow hw 11 rfl)) Via.refl rfl F116 F117 (Or.inl (ow hw 12 rfl)) (ow hw 1 rfl) (ty := (.array .int)) (by decide) rfl rfl (g := (mkF m 34 #[.val (.ref a), .val (.int (1 : Int32)), .val (.int (1 : Int32))] [(.ref b_110), (.ref a)])) rfl rfl (hb hby own_d7_34)
    have F118 : Fld Z T109.heap a "com/example/hatoyama/hatoyama/IndexSet" "words" "[J" (.ref nw) := (Fw.keep K115 nin0)
    have F119 : Fld Z T109.heap a "com/example/hatoyama/hatoyama/IndexSet" "used" "I" (.int (0 : Int32)) := (Fu.keep K115 nin0)
    have N114 := Fr.snoc X114 N109 gz_a
    refine go _ _ (st114) ?_
    show G (T114.setTop (mkF m 37 #[.val (.ref a), .val (.int (1 : Int32)), .val (.int (1 : Int32))] []))
    refine go _ _ (fun _ k => XS.aloadN X114.here hx rfl (hb hby own_d7_37) rfl rfl (XS.aloadN X114.here hx rfl (hb hby own_d7_38) rfl rfl k)) ?_
    show G (T114.setTop (mkF m 39 #[.val (.ref a), .val (.int (1 : Int32)), .val (.int (1 : Int32))] [(.ref a), (.ref a)]))
    obtain ⟨T120, X120, e120, st120⟩ := getF X114 hx hZ hown (host := "") (Or.inl (ow hw 15 rfl)) Via.refl e114 (F118.other W114 (Or.inr (RoadKit.slot_ne (t := (.array .long)) (t' := (.array .int)) (Or.inl (ow hw 16 rfl)) (Or.inl (ow hw 12 rfl)) (by decide) (by decide) (by decide)))) (g := (mkF m 39 #[.val (.ref a), .val (.int (1 : Int32)), .val (.int (1 : Int32))] [(.ref a), (.ref a)])) rfl rfl (hb hby own_d7_39)
    refine go _ _ (st120) ?_
    show G (T120.setTop (mkF m 42 #[.val (.ref a), .val (.int (1 : Int32)), .val (.int (1 : Int32))] [(.ref nw), (.ref a)]))
    refine go _ _ (fun _ k => XS.iloadN X120.here hx rfl (hb hby own_d7_42) rfl k) ?_
    show G (T120.setTop (mkF m 43 #[.val (.ref a), .val (.int (1 : Int32)), .val (.int (1 : Int32))] [(.int (1 : Int32)), (.ref nw), (.ref a)]))
    have K122 : Keep h0 T109.heap [a] := (Keep.refl h0 [a]).trans Kp109 all0
    have K123 : Keep h0 h114 [a] := K122.wr W114 (Or.inl (List.mem_of_getElem? (i := 0) rfl))
    have F124 : Old Z n0 h114 := (Xo.keep K123 (allS gz_a all0))
    have F125 : Arv Z h114 nw kw0 .long (0 : Int32) [] (.long (0 : Int64)) := (V_nw.ext F124.2)
    have Z126 : h0.size ≤ T109.heap.size := Kp109.1
    have Z127 : h0.size ≤ h114.size := Nat.le_trans Z126 (Keep.of_wr W114).1
    obtain ⟨rv121, T121, L121, X121, q121, st121⟩ := own_st X120 hx hZ (y := (⟨"java/util/Arrays", "copyOf", "([JI)[J"⟩ : MethodName)) hown (ow hw 57 rfl) (ow hw 58 rfl) (ow hw 30 rfl) (ow hw 59 rfl) (by decide) (own_bkN (W := 1) (rmCJ0 l Z a0 hw nk kk0 O_nk V_nk nw kw0 O_nw V_nw [] nw kw0 h114 n0 (Nat.le_trans Z0 Z127) F125) hZ (ow hw 59 rfl) (ow hw 30 rfl) (by decide) (by decide)) e120 (g := (mkF m 43 #[.val (.ref a), .val (.int (1 : Int32)), .val (.int (1 : Int32))] [(.int (1 : Int32)), (.ref nw), (.ref a)])) rfl (by rw [hml]; rfl) (argsL := [(.ref nw), (.int (1 : Int32))]) (rest := [(.ref a)]) rfl (lenOf own_pd4 rfl) rfl (by show 2 * 0 + _ ≤ _; exact Nat.le_of_eq rfl) (hb hby own_d7_43) (by decide) (by decide)
    obtain ⟨Nq121, Kp121, ⟨b_128, kb_129, rfl, z130, f131⟩⟩ := q121
    have N121 := Fr.app N114 Nq121
    refine go _ _ (st121) ?_
    show G (T121.setTop (mkF m 46 #[.val (.ref a), .val (.int (1 : Int32)), .val (.int (1 : Int32))] [(.ref b_128), (.ref a)]))
    have K133 : Keep h114 T121.heap [] := (Keep.refl h114 []).trans Kp121 all0
    have F134 : Fld Z T121.heap a "com/example/hatoyama/hatoyama/IndexSet" "words" "[J" (.ref nw) := ((F118.other W114 (Or.inr (RoadKit.slot_ne (t := (.array .long)) (t' := (.array .int)) (Or.inl (ow hw 16 rfl)) (Or.inl (ow hw 12 rfl)) (by decide) (by decide) (by decide)))).keep K133 nin0)
    have F135 : Exa Z T121.heap a "com/example/hatoyama/hatoyama/IndexSet" := ((F117.wr W114).keep K133)
    obtain ⟨T132, h132, X132, e132, W132, st132⟩ := putF X121 hx hZ hown (host := "") (Or.inl (ow hw 15 rfl)) Via.refl rfl F134 F135 (Or.inl (ow hw 16 rfl)) (ow hw 1 rfl) (ty := (.array .long)) (by decide) rfl rfl (g := (mkF m 46 #[.val (.ref a), .val (.int (1 : Int32)), .val (.int (1 : Int32))] [(.ref b_128), (.ref a)])) rfl rfl (hb hby own_d7_46)
    have F136 : Fld Z T121.heap a "com/example/hatoyama/hatoyama/IndexSet" "keys" "[I" (.ref b_110) := ((F116.same W114).keep K133 nin0)
    have F137 : Fld Z T121.heap a "com/example/hatoyama/hatoyama/IndexSet" "used" "I" (.int (0 : Int32)) := ((F119.other W114 (Or.inr (RoadKit.slot_ne (t := .int) (t' := (.array .int)) (Or.inl (ow hw 27 rfl)) (Or.inl (ow hw 12 rfl)) (by decide) (by decide) (by decide)))).keep K133 nin0)
    have N132 := Fr.snoc X132 N121 gz_a
    refine go _ _ (st132) ?_
    show G (T132.setTop (mkF m 49 #[.val (.ref a), .val (.int (1 : Int32)), .val (.int (1 : Int32))] []))
    have K138 : Keep h0 T121.heap [a] := K123.trans Kp121 all0
    have K139 : Keep h0 h132 [a] := K138.wr W132 (Or.inl (List.mem_of_getElem? (i := 0) rfl))
    have K140 : Keep T109.heap h114 [a] := (Keep.refl T109.heap [a]).wr W114 (Or.inl (List.mem_of_getElem? (i := 0) rfl))
    have K141 : Keep T109.heap T121.heap [a] := K140.trans Kp121 all0
    have K142 : Keep T109.heap h132 [a] := K141.wr W132 (Or.inl (List.mem_of_getElem? (i := 0) rfl))
    have F143 : Arv Z h132 b_110 kb_111 .int (1 : Int32) [(.int (0 : Int32))] (.int (0 : Int32)) := (f113.keep K142 (ninS (Ne.symm (Nat.ne_of_lt (Nat.lt_of_lt_of_le Fk.lt z112))) nin0))
    have K144 : Keep T121.heap h132 [a] := (Keep.refl T121.heap [a]).wr W132 (Or.inl (List.mem_of_getElem? (i := 0) rfl))
    have F145 : Arv Z h132 b_128 kb_129 .long (1 : Int32) [(.long (0 : Int64))] (.long (0 : Int64)) := (f131.keep K144 (ninS (Ne.symm (Nat.ne_of_lt (Nat.lt_of_lt_of_le (F116.same W114).lt z130))) nin0))
    refine fin T132 _ _ _ none X132 (fun _ => rfl) (by decide) (by decide) (by rw [e132]; exact ⟨N132, K139, ⟨b_110, b_128, kb_111, kb_129, rfl, z112, (Nat.le_trans Z127 z130), (F135.wr W132), (F137.other W132 (Or.inr (RoadKit.slot_ne (t := .int) (t' := (.array .long)) (Or.inl (ow hw 27 rfl)) (Or.inl (ow hw 16 rfl)) (by decide) (by decide) (by decide)))), (F136.other W132 (Or.inr (RoadKit.slot_ne (t := (.array .int)) (t' := (.array .long)) (Or.inl (ow hw 12 rfl)) (Or.inl (ow hw 16 rfl)) (by decide) (by decide) (by decide)))), (F134.same W132), F143, F145⟩⟩) _ (own_retV X132 hx hret (hb hby own_d7_49))
theorem own_d3_0 : decode prog_3_method_4_code 0 = .ok (.aload_n 0, 1) := by decide +kernel
theorem own_d3_1 : decode prog_3_method_4_code 1 = .ok (.getfield 13, 3) := by decide +kernel
theorem own_d3_4 : decode prog_3_method_4_code 4 = .ok (.iconst 0, 1) := by decide +kernel
theorem own_d3_5 : decode prog_3_method_4_code 5 = .ok (.aload_n 0, 1) := by decide +kernel
theorem own_d3_6 : decode prog_3_method_4_code 6 = .ok (.getfield 24, 3) := by decide +kernel
theorem own_d3_9 : decode prog_3_method_4_code 9 = .ok (.iload_n 1, 1) := by decide +kernel
theorem own_d3_10 : decode prog_3_method_4_code 10 = .ok (.bipush 6, 2) := by decide +kernel
theorem own_d3_12 : decode prog_3_method_4_code 12 = .ok (.iushr, 1) := by decide +kernel
theorem own_d3_13 : decode prog_3_method_4_code 13 = .ok (.invokestatic 37, 3) := by decide +kernel
theorem own_d3_16 : decode prog_3_method_4_code 16 = .ok (.istore_n 2, 1) := by decide +kernel
theorem own_d3_17 : decode prog_3_method_4_code 17 = .ok (.iload_n 2, 1) := by decide +kernel
theorem own_d3_18 : decode prog_3_method_4_code 18 = .ok (.ifCond .lt 18, 3) := by decide +kernel
theorem own_d3_36 : decode prog_3_method_4_code 36 = .ok (.iconst (-1), 1) := by decide +kernel
theorem own_d3_37 : decode prog_3_method_4_code 37 = .ok (.iload_n 2, 1) := by decide +kernel
theorem own_d3_38 : decode prog_3_method_4_code 38 = .ok (.isub, 1) := by decide +kernel
theorem own_d3_39 : decode prog_3_method_4_code 39 = .ok (.istore_n 3, 1) := by decide +kernel
theorem own_d3_40 : decode prog_3_method_4_code 40 = .ok (.aload_n 0, 1) := by decide +kernel
theorem own_d3_41 : decode prog_3_method_4_code 41 = .ok (.aload_n 0, 1) := by decide +kernel
theorem own_d3_42 : decode prog_3_method_4_code 42 = .ok (.getfield 24, 3) := by decide +kernel
theorem own_d3_45 : decode prog_3_method_4_code 45 = .ok (.iconst 1, 1) := by decide +kernel
theorem own_d3_46 : decode prog_3_method_4_code 46 = .ok (.iadd, 1) := by decide +kernel
theorem own_pd5 : parseMethodDescriptor "(I)V" = some ⟨[.int], none⟩ := by decide +kernel
theorem own_d3_47 : decode prog_3_method_4_code 47 = .ok (.invokevirtual 41, 3) := by decide +kernel
theorem own_d3_50 : decode prog_3_method_4_code 50 = .ok (.aload_n 0, 1) := by decide +kernel
theorem own_d3_51 : decode prog_3_method_4_code 51 = .ok (.getfield 13, 3) := by decide +kernel
theorem own_d3_54 : decode prog_3_method_4_code 54 = .ok (.iload_n 3, 1) := by decide +kernel
theorem own_d3_55 : decode prog_3_method_4_code 55 = .ok (.aload_n 0, 1) := by decide +kernel
theorem own_d3_56 : decode prog_3_method_4_code 56 = .ok (.getfield 13, 3) := by decide +kernel
theorem own_d3_59 : decode prog_3_method_4_code 59 = .ok (.iload_n 3, 1) := by decide +kernel
theorem own_d3_60 : decode prog_3_method_4_code 60 = .ok (.iconst 1, 1) := by decide +kernel
theorem own_d3_61 : decode prog_3_method_4_code 61 = .ok (.iadd, 1) := by decide +kernel
theorem own_d3_62 : decode prog_3_method_4_code 62 = .ok (.aload_n 0, 1) := by decide +kernel
theorem own_d3_63 : decode prog_3_method_4_code 63 = .ok (.getfield 24, 3) := by decide +kernel
theorem own_d3_66 : decode prog_3_method_4_code 66 = .ok (.iload_n 3, 1) := by decide +kernel
theorem own_d3_67 : decode prog_3_method_4_code 67 = .ok (.isub, 1) := by decide +kernel
theorem own_d3_68 : decode prog_3_method_4_code 68 = .ok (.invokestatic 45, 3) := by decide +kernel
theorem own_d3_71 : decode prog_3_method_4_code 71 = .ok (.aload_n 0, 1) := by decide +kernel
theorem own_d3_72 : decode prog_3_method_4_code 72 = .ok (.getfield 20, 3) := by decide +kernel
theorem own_d3_75 : decode prog_3_method_4_code 75 = .ok (.iload_n 3, 1) := by decide +kernel
theorem own_d3_76 : decode prog_3_method_4_code 76 = .ok (.aload_n 0, 1) := by decide +kernel
theorem own_d3_77 : decode prog_3_method_4_code 77 = .ok (.getfield 20, 3) := by decide +kernel
theorem own_d3_80 : decode prog_3_method_4_code 80 = .ok (.iload_n 3, 1) := by decide +kernel
theorem own_d3_81 : decode prog_3_method_4_code 81 = .ok (.iconst 1, 1) := by decide +kernel
theorem own_d3_82 : decode prog_3_method_4_code 82 = .ok (.iadd, 1) := by decide +kernel
theorem own_d3_83 : decode prog_3_method_4_code 83 = .ok (.aload_n 0, 1) := by decide +kernel
theorem own_d3_84 : decode prog_3_method_4_code 84 = .ok (.getfield 24, 3) := by decide +kernel
theorem own_d3_87 : decode prog_3_method_4_code 87 = .ok (.iload_n 3, 1) := by decide +kernel
theorem own_d3_88 : decode prog_3_method_4_code 88 = .ok (.isub, 1) := by decide +kernel
theorem own_d3_89 : decode prog_3_method_4_code 89 = .ok (.invokestatic 45, 3) := by decide +kernel
theorem own_d3_92 : decode prog_3_method_4_code 92 = .ok (.aload_n 0, 1) := by decide +kernel
theorem own_d3_93 : decode prog_3_method_4_code 93 = .ok (.getfield 13, 3) := by decide +kernel
theorem own_d3_96 : decode prog_3_method_4_code 96 = .ok (.iload_n 3, 1) := by decide +kernel
theorem own_d3_97 : decode prog_3_method_4_code 97 = .ok (.iload_n 1, 1) := by decide +kernel
theorem own_d3_98 : decode prog_3_method_4_code 98 = .ok (.bipush 6, 2) := by decide +kernel
theorem own_d3_100 : decode prog_3_method_4_code 100 = .ok (.iushr, 1) := by decide +kernel
theorem own_d3_101 : decode prog_3_method_4_code 101 = .ok (.iastore, 1) := by decide +kernel
theorem own_d3_102 : decode prog_3_method_4_code 102 = .ok (.aload_n 0, 1) := by decide +kernel
theorem own_d3_103 : decode prog_3_method_4_code 103 = .ok (.getfield 20, 3) := by decide +kernel
theorem own_d3_106 : decode prog_3_method_4_code 106 = .ok (.iload_n 3, 1) := by decide +kernel
theorem own_d3_107 : decode prog_3_method_4_code 107 = .ok (.lconst 1, 1) := by decide +kernel
theorem own_d3_108 : decode prog_3_method_4_code 108 = .ok (.iload_n 1, 1) := by decide +kernel
theorem own_d3_109 : decode prog_3_method_4_code 109 = .ok (.lshl, 1) := by decide +kernel
theorem own_d3_110 : decode prog_3_method_4_code 110 = .ok (.lastore, 1) := by decide +kernel
theorem own_d3_111 : decode prog_3_method_4_code 111 = .ok (.aload_n 0, 1) := by decide +kernel
theorem own_d3_112 : decode prog_3_method_4_code 112 = .ok (.dup, 1) := by decide +kernel
theorem own_d3_113 : decode prog_3_method_4_code 113 = .ok (.getfield 24, 3) := by decide +kernel
theorem own_d3_116 : decode prog_3_method_4_code 116 = .ok (.iconst 1, 1) := by decide +kernel
theorem own_d3_117 : decode prog_3_method_4_code 117 = .ok (.iadd, 1) := by decide +kernel
theorem own_d3_118 : decode prog_3_method_4_code 118 = .ok (.putfield 24, 3) := by decide +kernel
theorem own_d3_121 : decode prog_3_method_4_code 121 = .ok (.return_, 1) := by decide +kernel
set_option maxHeartbeats 4000000 in
theorem own_ef_rmAdd0 (m : MethodId) (x0 : Addr) (x1 : Int32) : entryFrame m #[(.ref x0), (.int x1)] 4 = mkF m 0 #[.val (.ref x0), .val (.int x1), .unset, .unset] [] := by rfl
set_option maxRecDepth 65536 in
set_option maxHeartbeats 40000000 in
theorem rmAdd0 (l : Launch) (Z : State) (a0 : Array Value) (hw : ∀ d ∈ tables_1, d.before a0 Z = true) (nk : Addr) (kk0 : ClassId) (O_nk : Sta Z Z.heap "com/example/hatoyama/hatoyama/IndexSet" "NO_KEYS" "[I" (.ref nk)) (V_nk : Arv Z Z.heap nk kk0 .int (0 : Int32) [] (.int (0 : Int32))) (nw : Addr) (kw0 : ClassId) (O_nw : Sta Z Z.heap "com/example/hatoyama/hatoyama/IndexSet" "NO_WORDS" "[J" (.ref nw)) (V_nw : Arv Z Z.heap nw kw0 .long (0 : Int32) [] (.long (0 : Int64))) (ws : List Jvm.Cond) (a : Addr) (x : Int32) (h0 : Heap) (n0 : Nat) (Z0 : n0 ≤ h0.size) (Xo : Old Z n0 h0) (Ea : Exa Z h0 a "com/example/hatoyama/hatoyama/IndexSet") (Fk : Fld Z h0 a "com/example/hatoyama/hatoyama/IndexSet" "keys" "[I" (.ref nk)) (Fw : Fld Z h0 a "com/example/hatoyama/hatoyama/IndexSet" "words" "[J" (.ref nw)) (Fu : Fld Z h0 a "com/example/hatoyama/hatoyama/IndexSet" "used" "I" (.int (0 : Int32))) (hs : own_Srt ([] : List (Int32 × Int64))) (gz_a : n0 ≤ a) :
    own_MetN l Z (⟨"com/example/hatoyama/hatoyama/IndexSet", "add", "(I)V"⟩ : MethodName) prog_3_method_4_code 4 none ws ({ frames := 3, cells := 2, slots := 2, locals := 56 } : Room) #[(.ref a), (.int x)] h0 (fun v h L => Fr n0 L ∧ Keep h0 h [a] ∧ ((∃ (kt2 : Addr) (wt2 : Addr) (kk2 : ClassId) (kw2 : ClassId) (m0 : Int32) (v0 : Int64), (v = none) ∧ (h0.size ≤ kt2) ∧ (h0.size ≤ wt2) ∧ (own_Srt ([(m0, v0)] : List (Int32 × Int64))) ∧ (own_Add ([] : List (Int32 × Int64)) ([(m0, v0)] : List (Int32 × Int64)) x) ∧ (Exa Z h a "com/example/hatoyama/hatoyama/IndexSet") ∧ (Fld Z h a "com/example/hatoyama/hatoyama/IndexSet" "used" "I" (.int (1 : Int32))) ∧ (Fld Z h a "com/example/hatoyama/hatoyama/IndexSet" "keys" "[I" (.ref kt2)) ∧ (Fld Z h a "com/example/hatoyama/hatoyama/IndexSet" "words" "[J" (.ref wt2)) ∧ (Arv Z h kt2 kk2 .int (1 : Int32) [(.int m0)] (.int (0 : Int32))) ∧ (Arv Z h wt2 kw2 .long (1 : Int32) [(.long v0)] (.long (0 : Int64)))))) := by
  refine own_metN (plainFor_of_name own_pn0) ?_
  intro p e s m below meth c s₁ G hx hby hml hZ hown hnm hret X0 e0 go fin
  have N0 := Fr.nil n0
  refine go _ _ (fun _ k => castTop (own_ef_rmAdd0 m a x) k) ?_
  show G (s₁.setTop (mkF m 0 #[.val (.ref a), .val (.int x), .unset, .unset] []))
  refine go _ _ (fun _ k => XS.aloadN X0.here hx rfl (hb hby own_d3_0) rfl rfl k) ?_
  show G (s₁.setTop (mkF m 1 #[.val (.ref a), .val (.int x), .unset, .unset] [(.ref a)]))
  obtain ⟨T101, X101, e101, st101⟩ := getF X0 hx hZ hown (host := "") (Or.inl (ow hw 11 rfl)) Via.refl e0 Fk (g := (mkF m 1 #[.val (.ref a), .val (.int x), .unset, .unset] [(.ref a)])) rfl rfl (hb hby own_d3_1)
  refine go _ _ (st101) ?_
  show G (T101.setTop (mkF m 4 #[.val (.ref a), .val (.int x), .unset, .unset] [(.ref nk)]))
  refine go _ _ (fun _ k => XS.iconst X101.here hx rfl (hb hby own_d3_4) (XS.aloadN X101.here hx rfl (hb hby own_d3_5) rfl rfl k)) ?_
  show G (T101.setTop (mkF m 6 #[.val (.ref a), .val (.int x), .unset, .unset] [(.ref a), (.int (0 : Int32)), (.ref nk)]))
  obtain ⟨T102, X102, e102, st102⟩ := getF X101 hx hZ hown (host := "") (Or.inl (ow hw 26 rfl)) Via.refl e101 Fu (g := (mkF m 6 #[.val (.ref a), .val (.int x), .unset, .unset] [(.ref a), (.int (0 : Int32)), (.ref nk)])) rfl rfl (hb hby own_d3_6)
  refine go _ _ (st102) ?_
  show G (T102.setTop (mkF m 9 #[.val (.ref a), .val (.int x), .unset, .unset] [(.int (0 : Int32)), (.int (0 : Int32)), (.ref nk)]))
  refine go _ _ (fun _ k => XS.iloadN X102.here hx rfl (hb hby own_d3_9) rfl (XS.bipush X102.here hx rfl (hb hby own_d3_10) (XS.iushr X102.here hx rfl (hb hby own_d3_12) rfl k))) ?_
  show G (T102.setTop (mkF m 13 #[.val (.ref a), .val (.int x), .unset, .unset] [(.int ((x.toUInt32 >>> ((6 : Int32) &&& 31).toUInt32).toInt32)), (.int (0 : Int32)), (.int (0 : Int32)), (.ref nk)]))
  obtain ⟨rv103, T103, L103, X103, q103, st103⟩ := own_st X102 hx hZ (y := (⟨"java/util/Arrays", "binarySearch", "([IIII)I"⟩ : MethodName)) hown (ow hw 28 rfl) (ow hw 29 rfl) (ow hw 30 rfl) (ow hw 31 rfl) (by decide) (own_bkN (W := 0) (rmBS0 l Z a0 hw nk kk0 O_nk V_nk nw kw0 O_nw V_nw [] nk ((x.toUInt32 >>> ((6 : Int32) &&& 31).toUInt32).toInt32) kk0 h0 n0 Z0 (V_nk.ext Xo.2)) hZ (ow hw 31 rfl) (ow hw 30 rfl) (by decide) (by decide)) e102 (g := (mkF m 13 #[.val (.ref a), .val (.int x), .unset, .unset] [(.int ((x.toUInt32 >>> ((6 : Int32) &&& 31).toUInt32).toInt32)), (.int (0 : Int32)), (.int (0 : Int32)), (.ref nk)])) rfl (by rw [hml]; rfl) (argsL := [(.ref nk), (.int (0 : Int32)), (.int (0 : Int32)), (.int ((x.toUInt32 >>> ((6 : Int32) &&& 31).toUInt32).toInt32))]) (rest := []) rfl (lenOf own_pd2 rfl) rfl (by show 2 * 0 + _ ≤ _; exact Nat.le_of_eq rfl) (hb hby own_d3_13) (by decide) (by decide)
  obtain ⟨Nq103, e103, rfl⟩ := q103
  have N103 := Fr.app N0 Nq103
  refine go _ _ (st103) ?_
  show G (T103.setTop (mkF m 16 #[.val (.ref a), .val (.int x), .unset, .unset] [(.int (-1 : Int32))]))
  refine go _ _ (fun _ k => XS.istoreN X103.here hx rfl (hb hby own_d3_16) rfl (l' := #[.val (.ref a), .val (.int x), .val (.int (-1 : Int32)), .unset]) rfl (XS.iloadN X103.here hx rfl (hb hby own_d3_17) rfl k)) ?_
  show G (T103.setTop (mkF m 18 #[.val (.ref a), .val (.int x), .val (.int (-1 : Int32)), .unset] [(.int (-1 : Int32))]))
  refine go _ _ (fun _ k => XS.ifYes X103.here hx rfl (pc0 := 18) (pc' := 36) rfl (hb hby own_d3_18) rfl (by decide) (by decide) (by decide) k) ?_
  show G (T103.setTop (mkF m 36 #[.val (.ref a), .val (.int x), .val (.int (-1 : Int32)), .unset] []))
  refine go _ _ (fun _ k => XS.iconst X103.here hx rfl (hb hby own_d3_36) (XS.iloadN X103.here hx rfl (hb hby own_d3_37) rfl (XS.isub X103.here hx rfl (hb hby own_d3_38) rfl (XS.istoreN X103.here hx rfl (hb hby own_d3_39) rfl (l' := #[.val (.ref a), .val (.int x), .val (.int (-1 : Int32)), .val (.int (0 : Int32))]) rfl (XS.aloadN X103.here hx rfl (hb hby own_d3_40) rfl rfl (XS.aloadN X103.here hx rfl (hb hby own_d3_41) rfl rfl k)))))) ?_
  show G (T103.setTop (mkF m 42 #[.val (.ref a), .val (.int x), .val (.int (-1 : Int32)), .val (.int (0 : Int32))] [(.ref a), (.ref a)]))
  obtain ⟨T104, X104, e104, st104⟩ := getF X103 hx hZ hown (host := "") (Or.inl (ow hw 26 rfl)) Via.refl e103 Fu (g := (mkF m 42 #[.val (.ref a), .val (.int x), .val (.int (-1 : Int32)), .val (.int (0 : Int32))] [(.ref a), (.ref a)])) rfl rfl (hb hby own_d3_42)
  refine go _ _ (st104) ?_
  show G (T104.setTop (mkF m 45 #[.val (.ref a), .val (.int x), .val (.int (-1 : Int32)), .val (.int (0 : Int32))] [(.int (0 : Int32)), (.ref a)]))
  refine go _ _ (fun _ k => XS.iconst X104.here hx rfl (hb hby own_d3_45) (XS.iadd X104.here hx rfl (hb hby own_d3_46) rfl k)) ?_
  show G (T104.setTop (mkF m 47 #[.val (.ref a), .val (.int x), .val (.int (-1 : Int32)), .val (.int (0 : Int32))] [(.int (1 : Int32)), (.ref a)]))
  obtain ⟨rv105, T105, L105, X105, q105, st105⟩ := own_pr X104 hx hZ (y := (⟨"com/example/hatoyama/hatoyama/IndexSet", "room", "(I)V"⟩ : MethodName)) hown (ow hw 38 rfl) (ow hw 39 rfl) (own_selfp (y := (⟨"com/example/hatoyama/hatoyama/IndexSet", "room", "(I)V"⟩ : MethodName)) (ow hw 40 rfl) (ow hw 39 rfl) (ow hw 1 rfl) (by decide)) (ow hw 40 rfl) (ow hw 41 rfl) (by decide) (own_bkN (W := 0) (rmRoom0 l Z a0 hw nk kk0 O_nk V_nk nw kw0 O_nw V_nw [] a h0 n0 Z0 Xo Ea Fk Fw Fu gz_a) hZ (ow hw 41 rfl) (ow hw 2 rfl) (by decide) (by decide)) e104 Ea (g := (mkF m 47 #[.val (.ref a), .val (.int x), .val (.int (-1 : Int32)), .val (.int (0 : Int32))] [(.int (1 : Int32)), (.ref a)])) rfl (by rw [hml]; rfl) (argsL := [(.int (1 : Int32))]) (rest := []) rfl (lenOf own_pd5 rfl) rfl (by show 2 * 0 + _ ≤ _; exact Nat.le_of_eq rfl) (hb hby own_d3_47) (by decide) (by decide)
  obtain ⟨Nq105, Kp105, ⟨kt2_106, wt2_107, kk2_108, kw2_109, rfl, z110, z111, f112, f113, f114, f115, f116, f117⟩⟩ := q105
  have N105 := Fr.app N103 Nq105
  refine go _ _ (st105) ?_
  show G (T105.setTop (mkF m 50 #[.val (.ref a), .val (.int x), .val (.int (-1 : Int32)), .val (.int (0 : Int32))] []))
  refine go _ _ (fun _ k => XS.aloadN X105.here hx rfl (hb hby own_d3_50) rfl rfl k) ?_
  show G (T105.setTop (mkF m 51 #[.val (.ref a), .val (.int x), .val (.int (-1 : Int32)), .val (.int (0 : Int32))] [(.ref a)]))
  obtain ⟨T118, X118, e118, st118⟩ := getF X105 hx hZ hown (host := "") (Or.inl (ow hw 11 rfl)) Via.refl rfl f114 (g := (mkF m 51 #[.val (.ref a), .val (.int x), .val (.int (-1 : Int32)), .val (.int (0 : Int32))] [(.ref a)])) rfl rfl (hb hby own_d3_51)
  refine go _ _ (st118) ?_
  show G (T118.setTop (mkF m 54 #[.val (.ref a), .val (.int x), .val (.int (-1 : Int32)), .val (.int (0 : Int32))] [(.ref kt2_106)]))
  refine go _ _ (fun _ k => XS.iloadN X118.here hx rfl (hb hby own_d3_54) rfl (XS.aloadN X118.here hx rfl (hb hby own_d3_55) rfl rfl k)) ?_
  show G (T118.setTop (mkF m 56 #[.val (.ref a), .val (.int x), .val (.int (-1 : Int32)), .val (.int (0 : Int32))] [(.ref a), (.int (0 : Int32)), (.ref kt2_106)]))
  obtain ⟨T119, X119, e119, st119⟩ := getF X118 hx hZ hown (host := "") (Or.inl (ow hw 11 rfl)) Via.refl e118 f114 (g := (mkF m 56 #[.val (.ref a), .val (.int x), .val (.int (-1 : Int32)), .val (.int (0 : Int32))] [(.ref a), (.int (0 : Int32)), (.ref kt2_106)])) rfl rfl (hb hby own_d3_56)
  refine go _ _ (st119) ?_
  show G (T119.setTop (mkF m 59 #[.val (.ref a), .val (.int x), .val (.int (-1 : Int32)), .val (.int (0 : Int32))] [(.ref kt2_106), (.int (0 : Int32)), (.ref kt2_106)]))
  refine go _ _ (fun _ k => XS.iloadN X119.here hx rfl (hb hby own_d3_59) rfl (XS.iconst X119.here hx rfl (hb hby own_d3_60) (XS.iadd X119.here hx rfl (hb hby own_d3_61) rfl (XS.aloadN X119.here hx rfl (hb hby own_d3_62) rfl rfl k)))) ?_
  show G (T119.setTop (mkF m 63 #[.val (.ref a), .val (.int x), .val (.int (-1 : Int32)), .val (.int (0 : Int32))] [(.ref a), (.int (1 : Int32)), (.ref kt2_106), (.int (0 : Int32)), (.ref kt2_106)]))
  obtain ⟨T120, X120, e120, st120⟩ := getF X119 hx hZ hown (host := "") (Or.inl (ow hw 26 rfl)) Via.refl e119 f113 (g := (mkF m 63 #[.val (.ref a), .val (.int x), .val (.int (-1 : Int32)), .val (.int (0 : Int32))] [(.ref a), (.int (1 : Int32)), (.ref kt2_106), (.int (0 : Int32)), (.ref kt2_106)])) rfl rfl (hb hby own_d3_63)
  refine go _ _ (st120) ?_
  show G (T120.setTop (mkF m 66 #[.val (.ref a), .val (.int x), .val (.int (-1 : Int32)), .val (.int (0 : Int32))] [(.int (0 : Int32)), (.int (1 : Int32)), (.ref kt2_106), (.int (0 : Int32)), (.ref kt2_106)]))
  refine go _ _ (fun _ k => XS.iloadN X120.here hx rfl (hb hby own_d3_66) rfl (XS.isub X120.here hx rfl (hb hby own_d3_67) rfl k)) ?_
  show G (T120.setTop (mkF m 68 #[.val (.ref a), .val (.int x), .val (.int (-1 : Int32)), .val (.int (0 : Int32))] [(.int (0 : Int32)), (.int (1 : Int32)), (.ref kt2_106), (.int (0 : Int32)), (.ref kt2_106)]))
  obtain ⟨T121, h121, L121, X121, e121, N121, Kp121, V121, st121⟩ := cpA X120 hx hZ hown (ow hw 61 rfl) (ow hw 56 rfl) (ow hw 54 rfl) (ow hw 55 rfl) e120 f116 f116 (us := []) (Or.inl ⟨rfl, rfl⟩) (by decide) (by decide) (by decide) (by decide) (by decide) rfl (Nat.le_of_ble_eq_true rfl) N105 (Nat.le_trans Z0 z110) (g := (mkF m 68 #[.val (.ref a), .val (.int x), .val (.int (-1 : Int32)), .val (.int (0 : Int32))] [(.int (0 : Int32)), (.int (1 : Int32)), (.ref kt2_106), (.int (0 : Int32)), (.ref kt2_106)])) rfl (by rw [hml]; rfl) (rest := []) rfl (hb hby own_d3_68) (by decide) (W := 0) (by show 2 * 0 + _ ≤ _; exact Nat.le_of_eq rfl) (by decide)
  have Vq121 : Arv Z h121 kt2_106 kk2_108 .int (1 : Int32) [(.int (0 : Int32))] (.int (0 : Int32)) := V121
  refine go _ _ (st121) ?_
  show G (T121.setTop (mkF m 71 #[.val (.ref a), .val (.int x), .val (.int (-1 : Int32)), .val (.int (0 : Int32))] []))
  refine go _ _ (fun _ k => XS.aloadN X121.here hx rfl (hb hby own_d3_71) rfl rfl k) ?_
  show G (T121.setTop (mkF m 72 #[.val (.ref a), .val (.int x), .val (.int (-1 : Int32)), .val (.int (0 : Int32))] [(.ref a)]))
  have K123 : Keep T105.heap h121 [kt2_106] := (Keep.refl T105.heap [kt2_106]).trans Kp121 (allS (Or.inl (List.mem_of_getElem? (i := 0) rfl)) all0)
  have F124 : Fld Z h121 a "com/example/hatoyama/hatoyama/IndexSet" "words" "[J" (.ref wt2_107) := (f115.keep K123 (ninS (Nat.ne_of_lt (Nat.lt_of_lt_of_le Ea.lt z110)) nin0))
  obtain ⟨T122, X122, e122, st122⟩ := getF X121 hx hZ hown (host := "") (Or.inl (ow hw 15 rfl)) Via.refl e121 F124 (g := (mkF m 72 #[.val (.ref a), .val (.int x), .val (.int (-1 : Int32)), .val (.int (0 : Int32))] [(.ref a)])) rfl rfl (hb hby own_d3_72)
  refine go _ _ (st122) ?_
  show G (T122.setTop (mkF m 75 #[.val (.ref a), .val (.int x), .val (.int (-1 : Int32)), .val (.int (0 : Int32))] [(.ref wt2_107)]))
  refine go _ _ (fun _ k => XS.iloadN X122.here hx rfl (hb hby own_d3_75) rfl (XS.aloadN X122.here hx rfl (hb hby own_d3_76) rfl rfl k)) ?_
  show G (T122.setTop (mkF m 77 #[.val (.ref a), .val (.int x), .val (.int (-1 : Int32)), .val (.int (0 : Int32))] [(.ref a), (.int (0 : Int32)), (.ref wt2_107)]))
  obtain ⟨T125, X125, e125, st125⟩ := getF X122 hx hZ hown (host := "") (Or.inl (ow hw 15 rfl)) Via.refl e122 F124 (g := (mkF m 77 #[.val (.ref a), .val (.int x), .val (.int (-1 : Int32)), .val (.int (0 : Int32))] [(.ref a), (.int (0 : Int32)), (.ref wt2_107)])) rfl rfl (hb hby own_d3_77)
  refine go _ _ (st125) ?_
  show G (T125.setTop (mkF m 80 #[.val (.ref a), .val (.int x), .val (.int (-1 : Int32)), .val (.int (0 : Int32))] [(.ref wt2_107), (.int (0 : Int32)), (.ref wt2_107)]))
  refine go _ _ (fun _ k => XS.iloadN X125.here hx rfl (hb hby own_d3_80) rfl (XS.iconst X125.here hx rfl (hb hby own_d3_81) (XS.iadd X125.here hx rfl (hb hby own_d3_82) rfl (XS.aloadN X125.here hx rfl (hb hby own_d3_83) rfl rfl k)))) ?_
  show G (T125.setTop (mkF m 84 #[.val (.ref a), .val (.int x), .val (.int (-1 : Int32)), .val (.int (0 : Int32))] [(.ref a), (.int (1 : Int32)), (.ref wt2_107), (.int (0 : Int32)), (.ref wt2_107)]))
  have F127 : Fld Z h121 a "com/example/hatoyama/hatoyama/IndexSet" "used" "I" (.int (0 : Int32)) := (f113.keep K123 (ninS (Nat.ne_of_lt (Nat.lt_of_lt_of_le Ea.lt z110)) nin0))
  obtain ⟨T126, X126, e126, st126⟩ := getF X125 hx hZ hown (host := "") (Or.inl (ow hw 26 rfl)) Via.refl e125 F127 (g := (mkF m 84 #[.val (.ref a), .val (.int x), .val (.int (-1 : Int32)), .val (.int (0 : Int32))] [(.ref a), (.int (1 : Int32)), (.ref wt2_107), (.int (0 : Int32)), (.ref wt2_107)])) rfl rfl (hb hby own_d3_84)
  refine go _ _ (st126) ?_
  show G (T126.setTop (mkF m 87 #[.val (.ref a), .val (.int x), .val (.int (-1 : Int32)), .val (.int (0 : Int32))] [(.int (0 : Int32)), (.int (1 : Int32)), (.ref wt2_107), (.int (0 : Int32)), (.ref wt2_107)]))
  refine go _ _ (fun _ k => XS.iloadN X126.here hx rfl (hb hby own_d3_87) rfl (XS.isub X126.here hx rfl (hb hby own_d3_88) rfl k)) ?_
  show G (T126.setTop (mkF m 89 #[.val (.ref a), .val (.int x), .val (.int (-1 : Int32)), .val (.int (0 : Int32))] [(.int (0 : Int32)), (.int (1 : Int32)), (.ref wt2_107), (.int (0 : Int32)), (.ref wt2_107)]))
  have ne129 : wt2_107 ≠ kt2_106 := own_neA f117 f116 (by decide)
  have F130 : Arv Z h121 wt2_107 kw2_109 .long (1 : Int32) [(.long (0 : Int64))] (.long (0 : Int64)) := (f117.keep K123 (ninS ne129 nin0))
  obtain ⟨T128, h128, L128, X128, e128, N128, Kp128, V128, st128⟩ := cpA X126 hx hZ hown (ow hw 61 rfl) (ow hw 56 rfl) (ow hw 54 rfl) (ow hw 55 rfl) e126 F130 F130 (us := []) (Or.inl ⟨rfl, rfl⟩) (by decide) (by decide) (by decide) (by decide) (by decide) rfl (Nat.le_of_ble_eq_true rfl) N121 (Nat.le_trans Z0 z111) (g := (mkF m 89 #[.val (.ref a), .val (.int x), .val (.int (-1 : Int32)), .val (.int (0 : Int32))] [(.int (0 : Int32)), (.int (1 : Int32)), (.ref wt2_107), (.int (0 : Int32)), (.ref wt2_107)])) rfl (by rw [hml]; rfl) (rest := []) rfl (hb hby own_d3_89) (by decide) (W := 0) (by show 2 * 0 + _ ≤ _; exact Nat.le_of_eq rfl) (by decide)
  have Vq128 : Arv Z h128 wt2_107 kw2_109 .long (1 : Int32) [(.long (0 : Int64))] (.long (0 : Int64)) := V128
  refine go _ _ (st128) ?_
  show G (T128.setTop (mkF m 92 #[.val (.ref a), .val (.int x), .val (.int (-1 : Int32)), .val (.int (0 : Int32))] []))
  refine go _ _ (fun _ k => XS.aloadN X128.here hx rfl (hb hby own_d3_92) rfl rfl k) ?_
  show G (T128.setTop (mkF m 93 #[.val (.ref a), .val (.int x), .val (.int (-1 : Int32)), .val (.int (0 : Int32))] [(.ref a)]))
  have K132 : Keep T105.heap h121 [kt2_106, wt2_107] := (Keep.refl T105.heap [kt2_106, wt2_107]).trans Kp121 (allS (Or.inl (List.mem_of_getElem? (i := 0) rfl)) all0)
  have K133 : Keep T105.heap h128 [kt2_106, wt2_107] := K132.trans Kp128 (allS (Or.inl (List.mem_of_getElem? (i := 1) rfl)) all0)
  have F134 : Fld Z h128 a "com/example/hatoyama/hatoyama/IndexSet" "keys" "[I" (.ref kt2_106) := (f114.keep K133 (ninS (Nat.ne_of_lt (Nat.lt_of_lt_of_le Ea.lt z110)) (ninS (Nat.ne_of_lt (Nat.lt_of_lt_of_le Ea.lt z111)) nin0)))
  obtain ⟨T131, X131, e131, st131⟩ := getF X128 hx hZ hown (host := "") (Or.inl (ow hw 11 rfl)) Via.refl e128 F134 (g := (mkF m 93 #[.val (.ref a), .val (.int x), .val (.int (-1 : Int32)), .val (.int (0 : Int32))] [(.ref a)])) rfl rfl (hb hby own_d3_93)
  refine go _ _ (st131) ?_
  show G (T131.setTop (mkF m 96 #[.val (.ref a), .val (.int x), .val (.int (-1 : Int32)), .val (.int (0 : Int32))] [(.ref kt2_106)]))
  refine go _ _ (fun _ k => XS.iloadN X131.here hx rfl (hb hby own_d3_96) rfl (XS.iloadN X131.here hx rfl (hb hby own_d3_97) rfl (XS.bipush X131.here hx rfl (hb hby own_d3_98) (XS.iushr X131.here hx rfl (hb hby own_d3_100) rfl k)))) ?_
  show G (T131.setTop (mkF m 101 #[.val (.ref a), .val (.int x), .val (.int (-1 : Int32)), .val (.int (0 : Int32))] [(.int ((x.toUInt32 >>> ((6 : Int32) &&& 31).toUInt32).toInt32)), (.int (0 : Int32)), (.ref kt2_106)]))
  have K136 : Keep h121 h128 [wt2_107] := (Keep.refl h121 [wt2_107]).trans Kp128 (allS (Or.inl (List.mem_of_getElem? (i := 0) rfl)) all0)
  have F137 : Arv Z h128 kt2_106 kk2_108 .int (1 : Int32) [(.int (0 : Int32))] (.int (0 : Int32)) := (Vq121.keep K136 (ninS (Ne.symm ne129) nin0))
  obtain ⟨cl135, Ar135, q135, S135, M135, H135, U135⟩ := id F137
  obtain ⟨T135, h135, X135, e135, W135, st135⟩ := stI X131 hx hZ e131 Ar135 (j := (0 : Int32)) (inb_of S135 ⟨by decide, by decide⟩) (g := (mkF m 101 #[.val (.ref a), .val (.int x), .val (.int (-1 : Int32)), .val (.int (0 : Int32))] [(.int ((x.toUInt32 >>> ((6 : Int32) &&& 31).toUInt32).toInt32)), (.int (0 : Int32)), (.ref kt2_106)])) rfl rfl (hb hby own_d3_101)
  have V135 : Arv Z h135 kt2_106 kk2_108 .int (1 : Int32) [(.int ((x.toUInt32 >>> ((6 : Int32) &&& 31).toUInt32).toInt32))] (.int (0 : Int32)) := Arv.set Ar135 q135 S135 M135 H135 U135 rfl W135 0 rfl (Nat.le_of_ble_eq_true rfl)
  have N135 := Fr.snoc X135 N128 (Nat.le_trans Z0 z110)
  refine go _ _ (st135) ?_
  show G (T135.setTop (mkF m 102 #[.val (.ref a), .val (.int x), .val (.int (-1 : Int32)), .val (.int (0 : Int32))] []))
  refine go _ _ (fun _ k => XS.aloadN X135.here hx rfl (hb hby own_d3_102) rfl rfl k) ?_
  show G (T135.setTop (mkF m 103 #[.val (.ref a), .val (.int x), .val (.int (-1 : Int32)), .val (.int (0 : Int32))] [(.ref a)]))
  have K139 : Keep h121 h128 [wt2_107, kt2_106] := (Keep.refl h121 [wt2_107, kt2_106]).trans Kp128 (allS (Or.inl (List.mem_of_getElem? (i := 0) rfl)) all0)
  have K140 : Keep h121 h135 [wt2_107, kt2_106] := K139.wr W135 (Or.inl (List.mem_of_getElem? (i := 1) rfl))
  have F141 : Fld Z h135 a "com/example/hatoyama/hatoyama/IndexSet" "words" "[J" (.ref wt2_107) := (F124.keep K140 (ninS (Nat.ne_of_lt (Nat.lt_of_lt_of_le Ea.lt z111)) (ninS (Nat.ne_of_lt (Nat.lt_of_lt_of_le Ea.lt z110)) nin0)))
  obtain ⟨T138, X138, e138, st138⟩ := getF X135 hx hZ hown (host := "") (Or.inl (ow hw 15 rfl)) Via.refl e135 F141 (g := (mkF m 103 #[.val (.ref a), .val (.int x), .val (.int (-1 : Int32)), .val (.int (0 : Int32))] [(.ref a)])) rfl rfl (hb hby own_d3_103)
  refine go _ _ (st138) ?_
  show G (T138.setTop (mkF m 106 #[.val (.ref a), .val (.int x), .val (.int (-1 : Int32)), .val (.int (0 : Int32))] [(.ref wt2_107)]))
  refine go _ _ (fun _ k => XS.iloadN X138.here hx rfl (hb hby own_d3_106) rfl (XS.lconst X138.here hx rfl (hb hby own_d3_107) (XS.iloadN X138.here hx rfl (hb hby own_d3_108) rfl (XS.lshl X138.here hx rfl (hb hby own_d3_109) rfl k)))) ?_
  show G (T138.setTop (mkF m 110 #[.val (.ref a), .val (.int x), .val (.int (-1 : Int32)), .val (.int (0 : Int32))] [(.long ((1 : Int64) <<< (x &&& 0x3f).toInt64)), (.int (0 : Int32)), (.ref wt2_107)]))
  have K143 : Keep h128 h135 [kt2_106] := (Keep.refl h128 [kt2_106]).wr W135 (Or.inl (List.mem_of_getElem? (i := 0) rfl))
  have F144 : Arv Z h135 wt2_107 kw2_109 .long (1 : Int32) [(.long (0 : Int64))] (.long (0 : Int64)) := (Vq128.keep K143 (ninS ne129 nin0))
  obtain ⟨cl142, Ar142, q142, S142, M142, H142, U142⟩ := id F144
  obtain ⟨T142, h142, X142, e142, W142, st142⟩ := stJ X138 hx hZ e138 Ar142 (j := (0 : Int32)) (inb_of S142 ⟨by decide, by decide⟩) (g := (mkF m 110 #[.val (.ref a), .val (.int x), .val (.int (-1 : Int32)), .val (.int (0 : Int32))] [(.long ((1 : Int64) <<< (x &&& 0x3f).toInt64)), (.int (0 : Int32)), (.ref wt2_107)])) rfl rfl (hb hby own_d3_110)
  have V142 : Arv Z h142 wt2_107 kw2_109 .long (1 : Int32) [(.long ((1 : Int64) <<< (x &&& 0x3f).toInt64))] (.long (0 : Int64)) := Arv.set Ar142 q142 S142 M142 H142 U142 rfl W142 0 rfl (Nat.le_of_ble_eq_true rfl)
  have N142 := Fr.snoc X142 N135 (Nat.le_trans Z0 z111)
  refine go _ _ (st142) ?_
  show G (T142.setTop (mkF m 111 #[.val (.ref a), .val (.int x), .val (.int (-1 : Int32)), .val (.int (0 : Int32))] []))
  refine go _ _ (fun _ k => XS.aloadN X142.here hx rfl (hb hby own_d3_111) rfl rfl (XS.dup X142.here hx rfl (hb hby own_d3_112) rfl rfl k)) ?_
  show G (T142.setTop (mkF m 113 #[.val (.ref a), .val (.int x), .val (.int (-1 : Int32)), .val (.int (0 : Int32))] [(.ref a), (.ref a)]))
  have K146 : Keep h121 h142 [wt2_107, kt2_106] := K140.wr W142 (Or.inl (List.mem_of_getElem? (i := 0) rfl))
  have F147 : Fld Z h142 a "com/example/hatoyama/hatoyama/IndexSet" "used" "I" (.int (0 : Int32)) := (F127.keep K146 (ninS (Nat.ne_of_lt (Nat.lt_of_lt_of_le Ea.lt z111)) (ninS (Nat.ne_of_lt (Nat.lt_of_lt_of_le Ea.lt z110)) nin0)))
  obtain ⟨T145, X145, e145, st145⟩ := getF X142 hx hZ hown (host := "") (Or.inl (ow hw 26 rfl)) Via.refl e142 F147 (g := (mkF m 113 #[.val (.ref a), .val (.int x), .val (.int (-1 : Int32)), .val (.int (0 : Int32))] [(.ref a), (.ref a)])) rfl rfl (hb hby own_d3_113)
  refine go _ _ (st145) ?_
  show G (T145.setTop (mkF m 116 #[.val (.ref a), .val (.int x), .val (.int (-1 : Int32)), .val (.int (0 : Int32))] [(.int (0 : Int32)), (.ref a)]))
  refine go _ _ (fun _ k => XS.iconst X145.here hx rfl (hb hby own_d3_116) (XS.iadd X145.here hx rfl (hb hby own_d3_117) rfl k)) ?_
  show G (T145.setTop (mkF m 118 #[.val (.ref a), .val (.int x), .val (.int (-1 : Int32)), .val (.int (0 : Int32))] [(.int (1 : Int32)), (.ref a)]))
  have K149 : Keep T105.heap h135 [kt2_106, wt2_107] := K133.wr W135 (Or.inl (List.mem_of_getElem? (i := 0) rfl))
  have K150 : Keep T105.heap h142 [kt2_106, wt2_107] := K149.wr W142 (Or.inl (List.mem_of_getElem? (i := 1) rfl))
  have F151 : Exa Z h142 a "com/example/hatoyama/hatoyama/IndexSet" := (f112.keep K150)
  obtain ⟨T148, h148, X148, e148, W148, st148⟩ := putF X145 hx hZ hown (host := "") (Or.inl (ow hw 26 rfl)) Via.refl e145 F147 F151 (Or.inl (ow hw 27 rfl)) (ow hw 1 rfl) (ty := .int) (by decide) rfl rfl (g := (mkF m 118 #[.val (.ref a), .val (.int x), .val (.int (-1 : Int32)), .val (.int (0 : Int32))] [(.int (1 : Int32)), (.ref a)])) rfl rfl (hb hby own_d3_118)
  have K152 : Keep h128 h135 [kt2_106, wt2_107] := (Keep.refl h128 [kt2_106, wt2_107]).wr W135 (Or.inl (List.mem_of_getElem? (i := 0) rfl))
  have K153 : Keep h128 h142 [kt2_106, wt2_107] := K152.wr W142 (Or.inl (List.mem_of_getElem? (i := 1) rfl))
  have F154 : Fld Z h142 a "com/example/hatoyama/hatoyama/IndexSet" "keys" "[I" (.ref kt2_106) := (F134.keep K153 (ninS (Nat.ne_of_lt (Nat.lt_of_lt_of_le Ea.lt z110)) (ninS (Nat.ne_of_lt (Nat.lt_of_lt_of_le Ea.lt z111)) nin0)))
  have K155 : Keep h135 h142 [wt2_107] := (Keep.refl h135 [wt2_107]).wr W142 (Or.inl (List.mem_of_getElem? (i := 0) rfl))
  have F156 : Fld Z h142 a "com/example/hatoyama/hatoyama/IndexSet" "words" "[J" (.ref wt2_107) := (F141.keep K155 (ninS (Nat.ne_of_lt (Nat.lt_of_lt_of_le Ea.lt z111)) nin0))
  have N148 := Fr.snoc X148 N142 gz_a
  refine go _ _ (st148) ?_
  show G (T148.setTop (mkF m 121 #[.val (.ref a), .val (.int x), .val (.int (-1 : Int32)), .val (.int (0 : Int32))] []))
  have K157 : Keep h0 T105.heap [a] := (Keep.refl h0 [a]).trans Kp105 (allS (Or.inl (List.mem_of_getElem? (i := 0) rfl)) all0)
  have K158 : Keep h0 h121 [a] := K157.trans Kp121 (allS (Or.inr z110) all0)
  have K159 : Keep h0 h128 [a] := K158.trans Kp128 (allS (Or.inr z111) all0)
  have K160 : Keep h0 h135 [a] := K159.wr W135 (Or.inr z110)
  have K161 : Keep h0 h142 [a] := K160.wr W142 (Or.inr z111)
  have K162 : Keep h0 h148 [a] := K161.wr W148 (Or.inl (List.mem_of_getElem? (i := 0) rfl))
  have K163 : Keep h135 h142 [wt2_107, a] := (Keep.refl h135 [wt2_107, a]).wr W142 (Or.inl (List.mem_of_getElem? (i := 0) rfl))
  have K164 : Keep h135 h148 [wt2_107, a] := K163.wr W148 (Or.inl (List.mem_of_getElem? (i := 1) rfl))
  have F165 : Arv Z h148 kt2_106 kk2_108 .int (1 : Int32) [(.int ((x.toUInt32 >>> ((6 : Int32) &&& 31).toUInt32).toInt32))] (.int (0 : Int32)) := (V135.keep K164 (ninS (Ne.symm ne129) (ninS (Ne.symm (Nat.ne_of_lt (Nat.lt_of_lt_of_le Ea.lt z110))) nin0)))
  have K166 : Keep h142 h148 [a] := (Keep.refl h142 [a]).wr W148 (Or.inl (List.mem_of_getElem? (i := 0) rfl))
  have F167 : Arv Z h148 wt2_107 kw2_109 .long (1 : Int32) [(.long ((1 : Int64) <<< (x &&& 0x3f).toInt64))] (.long (0 : Int64)) := (V142.keep K166 (ninS (Ne.symm (Nat.ne_of_lt (Nat.lt_of_lt_of_le Ea.lt z111))) nin0))
  refine fin T148 _ _ _ none X148 (fun _ => rfl) (by decide) (by decide) (by rw [e148]; exact ⟨N148, K162, ⟨kt2_106, wt2_107, kk2_108, kw2_109, ((x.toUInt32 >>> ((6 : Int32) &&& 31).toUInt32).toInt32), ((1 : Int64) <<< (x &&& 0x3f).toInt64), rfl, z110, z111, (own_srt1 ⟨x, rfl⟩), (own_add_ins [] [] x), (F151.wr W148), (F147.same W148), (F154.other W148 (Or.inr (RoadKit.slot_ne (t := (.array .int)) (t' := .int) (Or.inl (ow hw 12 rfl)) (Or.inl (ow hw 27 rfl)) (by decide) (by decide) (by decide)))), (F156.other W148 (Or.inr (RoadKit.slot_ne (t := (.array .long)) (t' := .int) (Or.inl (ow hw 16 rfl)) (Or.inl (ow hw 27 rfl)) (by decide) (by decide) (by decide)))), F165, F167⟩⟩) _ (own_retV X148 hx hret (hb hby own_d3_121))
set_option maxHeartbeats 4000000 in
theorem own_ef_rmCI1 (m : MethodId) (x0 : Addr) (x1 : Int32) : entryFrame m #[(.ref x0), (.int x1)] 3 = mkF m 0 #[.val (.ref x0), .val (.int x1), .unset] [] := by rfl
set_option maxRecDepth 65536 in
set_option maxHeartbeats 40000000 in
theorem rmCI1 (l : Launch) (Z : State) (a0 : Array Value) (hw : ∀ d ∈ tables_1, d.before a0 Z = true) (nk : Addr) (kk0 : ClassId) (O_nk : Sta Z Z.heap "com/example/hatoyama/hatoyama/IndexSet" "NO_KEYS" "[I" (.ref nk)) (V_nk : Arv Z Z.heap nk kk0 .int (0 : Int32) [] (.int (0 : Int32))) (nw : Addr) (kw0 : ClassId) (O_nw : Sta Z Z.heap "com/example/hatoyama/hatoyama/IndexSet" "NO_WORDS" "[J" (.ref nw)) (V_nw : Arv Z Z.heap nw kw0 .long (0 : Int32) [] (.long (0 : Int64))) (ws : List Jvm.Cond) (t : Addr) (kk : ClassId) (k0 : Int32) (h0 : Heap) (n0 : Nat) (Z0 : n0 ≤ h0.size) (At : Arv Z h0 t kk .int (1 : Int32) [(.int k0)] (.int (0 : Int32))) :
    own_MetN l Z (⟨"java/util/Arrays", "copyOf", "([II)[I"⟩ : MethodName) jdk_65_method_123_code 3 (some (.array .int)) ws ({ frames := 1, cells := 1, slots := 2, locals := 27 } : Room) #[(.ref t), (.int (2 : Int32))] h0 (fun v h L => Fr n0 L ∧ Keep h0 h [] ∧ ((∃ (b : Addr) (kb : ClassId), (v = some (.ref b)) ∧ (h0.size ≤ b) ∧ (Arv Z h b kb .int (2 : Int32) [(.int k0), (.int (0 : Int32))] (.int (0 : Int32)))))) := by
  refine own_metN (plainFor_of_name own_pn2) ?_
  intro p e s m below meth c s₁ G hx hby hml hZ hown hnm hret X0 e0 go fin
  have N0 := Fr.nil n0
  refine go _ _ (fun _ k => castTop (own_ef_rmCI1 m t (2 : Int32)) k) ?_
  show G (s₁.setTop (mkF m 0 #[.val (.ref t), .val (.int (2 : Int32)), .unset] []))
  refine go _ _ (fun _ k => XS.iloadN X0.here hx rfl (hb hby own_d9_0) rfl (XS.aloadN X0.here hx rfl (hb hby own_d9_1) rfl rfl k)) ?_
  show G (s₁.setTop (mkF m 2 #[.val (.ref t), .val (.int (2 : Int32)), .unset] [(.ref t), (.int (2 : Int32))]))
  obtain ⟨cl101, Ar101, q101, S101, M101, H101, U101⟩ := id At
  refine go _ _ (fun _ k => X0.arraylength hx (by rw [e0]; exact Ar101.1) (State.isArrayOf_alike hZ.alike Ar101.2.1) (g := (mkF m 2 #[.val (.ref t), .val (.int (2 : Int32)), .unset] [(.ref t), (.int (2 : Int32))])) rfl rfl (hb hby own_d9_2) _ k) ?_
  show G (s₁.setTop (mkF m 3 #[.val (.ref t), .val (.int (2 : Int32)), .unset] [(.int cl101.slots.size.toInt32), (.int (2 : Int32))]))
  rw [len_of S101 M101]
  show G (s₁.setTop (mkF m 3 #[.val (.ref t), .val (.int (2 : Int32)), .unset] [(.int (1 : Int32)), (.int (2 : Int32))]))
  refine go _ _ (fun _ k => XS.icmpYes X0.here hx rfl (pc0 := 3) (pc' := 14) rfl (hb hby own_d9_3) rfl (by decide) (by decide) (by decide) k) ?_
  show G (s₁.setTop (mkF m 14 #[.val (.ref t), .val (.int (2 : Int32)), .unset] []))
  refine go _ _ (fun _ k => XS.iloadN X0.here hx rfl (hb hby own_d9_14) rfl k) ?_
  show G (s₁.setTop (mkF m 15 #[.val (.ref t), .val (.int (2 : Int32)), .unset] [(.int (2 : Int32))]))
  obtain ⟨T102, h102, k102, X102, e102, E102, A102, st102⟩ := newP X0 hx hZ (ow hw 49 rfl) e0 (g := (mkF m 15 #[.val (.ref t), .val (.int (2 : Int32)), .unset] [(.int (2 : Int32))])) rfl (hb hby own_d9_15) rfl (by decide) (cap := 2) (by decide) (by decide) (by decide) (by decide)
  obtain ⟨b102, g102⟩ : ∃ z, z = h0.size := ⟨_, rfl⟩
  rw [← g102] at A102 st102
  have V102 : Arv Z h102 b102 k102 .int (2 : Int32) [(.int (0 : Int32)), (.int (0 : Int32))] (.int (0 : Int32)) := (Arv.new A102 (by decide)).pad (pad_rep [] (.int (0 : Int32)) 2)
  refine go _ _ (st102) ?_
  show G (T102.setTop (mkF m 17 #[.val (.ref t), .val (.int (2 : Int32)), .unset] [(.ref b102)]))
  refine go _ _ (fun _ k => XS.astoreN X102.here hx rfl (hb hby own_d9_17) rfl rfl (l' := #[.val (.ref t), .val (.int (2 : Int32)), .val (.ref b102)]) rfl (XS.aloadN X102.here hx rfl (hb hby own_d9_18) rfl rfl (XS.iconst X102.here hx rfl (hb hby own_d9_19) (XS.aloadN X102.here hx rfl (hb hby own_d9_20) rfl rfl (XS.iconst X102.here hx rfl (hb hby own_d9_21) (XS.aloadN X102.here hx rfl (hb hby own_d9_22) rfl rfl k)))))) ?_
  show G (T102.setTop (mkF m 23 #[.val (.ref t), .val (.int (2 : Int32)), .val (.ref b102)] [(.ref t), (.int (0 : Int32)), (.ref b102), (.int (0 : Int32)), (.ref t)]))
  have K104 : Keep h0 h102 [] := (Keep.refl h0 []).ext E102
  have F105 : Arv Z h102 t kk .int (1 : Int32) [(.int k0)] (.int (0 : Int32)) := (At.keep K104 nin0)
  obtain ⟨cl103, Ar103, q103, S103, M103, H103, U103⟩ := id F105
  refine go _ _ (fun _ k => X102.arraylength hx (by rw [e102]; exact Ar103.1) (State.isArrayOf_alike hZ.alike Ar103.2.1) (g := (mkF m 23 #[.val (.ref t), .val (.int (2 : Int32)), .val (.ref b102)] [(.ref t), (.int (0 : Int32)), (.ref b102), (.int (0 : Int32)), (.ref t)])) rfl rfl (hb hby own_d9_23) _ k) ?_
  show G (T102.setTop (mkF m 24 #[.val (.ref t), .val (.int (2 : Int32)), .val (.ref b102)] [(.int cl103.slots.size.toInt32), (.int (0 : Int32)), (.ref b102), (.int (0 : Int32)), (.ref t)]))
  rw [len_of S103 M103]
  show G (T102.setTop (mkF m 24 #[.val (.ref t), .val (.int (2 : Int32)), .val (.ref b102)] [(.int (1 : Int32)), (.int (0 : Int32)), (.ref b102), (.int (0 : Int32)), (.ref t)]))
  refine go _ _ (fun _ k => XS.iloadN X102.here hx rfl (hb hby own_d9_24) rfl k) ?_
  show G (T102.setTop (mkF m 25 #[.val (.ref t), .val (.int (2 : Int32)), .val (.ref b102)] [(.int (2 : Int32)), (.int (1 : Int32)), (.int (0 : Int32)), (.ref b102), (.int (0 : Int32)), (.ref t)]))
  have Z107 : h0.size ≤ h102.size := E102.1
  obtain ⟨rv106, T106, L106, X106, q106, st106⟩ := own_st X102 hx hZ (y := (⟨"java/lang/Math", "min", "(II)I"⟩ : MethodName)) hown (ow hw 50 rfl) (ow hw 51 rfl) (ow hw 44 rfl) (ow hw 52 rfl) (by decide) (own_bkN (W := 4) (rm10 l Z a0 hw nk kk0 O_nk V_nk nw kw0 O_nw V_nw [] (1 : Int32) (2 : Int32) h102 n0 (Nat.le_trans Z0 Z107)) hZ (ow hw 52 rfl) (ow hw 44 rfl) (by decide) (by decide)) e102 (g := (mkF m 25 #[.val (.ref t), .val (.int (2 : Int32)), .val (.ref b102)] [(.int (2 : Int32)), (.int (1 : Int32)), (.int (0 : Int32)), (.ref b102), (.int (0 : Int32)), (.ref t)])) rfl (by rw [hml]; rfl) (argsL := [(.int (1 : Int32)), (.int (2 : Int32))]) (rest := [(.int (0 : Int32)), (.ref b102), (.int (0 : Int32)), (.ref t)]) rfl (lenOf own_pd0 rfl) rfl (by show 2 * 0 + _ ≤ _; exact Nat.le_of_eq rfl) (hb hby own_d9_25) (by decide) (by decide)
  obtain ⟨Nq106, e106, q106⟩ := q106
  have N106 := Fr.app N0 Nq106
  rcases q106 with ⟨rfl, p108⟩ | ⟨rfl, p109⟩
  · exact absurd p108 (by decide)
  · refine go _ _ (st106) ?_
    show G (T106.setTop (mkF m 28 #[.val (.ref t), .val (.int (2 : Int32)), .val (.ref b102)] [(.int (1 : Int32)), (.int (0 : Int32)), (.ref b102), (.int (0 : Int32)), (.ref t)]))
    obtain ⟨T110, h110, L110, X110, e110, N110, Kp110, V110, st110⟩ := cpA X106 hx hZ hown (ow hw 53 rfl) (ow hw 56 rfl) (ow hw 54 rfl) (ow hw 55 rfl) e106 F105 V102 (us := [(.int k0)]) (Or.inl ⟨rfl, rfl⟩) (by decide) (by decide) (by decide) (by decide) (by decide) rfl (Nat.le_of_ble_eq_true rfl) N106 (Nat.le_trans Z0 (Nat.le_of_eq g102.symm)) (g := (mkF m 28 #[.val (.ref t), .val (.int (2 : Int32)), .val (.ref b102)] [(.int (1 : Int32)), (.int (0 : Int32)), (.ref b102), (.int (0 : Int32)), (.ref t)])) rfl (by rw [hml]; rfl) (rest := []) rfl (hb hby own_d9_28) (by decide) (W := 0) (by show 2 * 0 + _ ≤ _; exact Nat.le_of_eq rfl) (by decide)
    have Vq110 : Arv Z h110 b102 k102 .int (2 : Int32) [(.int k0), (.int (0 : Int32))] (.int (0 : Int32)) := V110
    refine go _ _ (st110) ?_
    show G (T110.setTop (mkF m 31 #[.val (.ref t), .val (.int (2 : Int32)), .val (.ref b102)] []))
    refine go _ _ (fun _ k => XS.aloadN X110.here hx rfl (hb hby own_d9_31) rfl rfl k) ?_
    show G (T110.setTop (mkF m 32 #[.val (.ref t), .val (.int (2 : Int32)), .val (.ref b102)] [(.ref b102)]))
    have K111 : Keep h0 h110 [] := K104.trans Kp110 (allS (Or.inr (Nat.le_of_eq g102.symm)) all0)
    refine fin T110 _ _ _ (some (.ref b102)) X110 (fun q => nomatch q) (by decide) (by decide) (by rw [e110]; exact ⟨N110, K111, ⟨b102, k102, rfl, (Nat.le_of_eq g102.symm), Vq110⟩⟩) _ (own_retA X110 hx hret rfl rfl rfl (hb hby own_d9_32))
set_option maxHeartbeats 4000000 in
theorem own_ef_rmCJ1 (m : MethodId) (x0 : Addr) (x1 : Int32) : entryFrame m #[(.ref x0), (.int x1)] 3 = mkF m 0 #[.val (.ref x0), .val (.int x1), .unset] [] := by rfl
set_option maxRecDepth 65536 in
set_option maxHeartbeats 40000000 in
theorem rmCJ1 (l : Launch) (Z : State) (a0 : Array Value) (hw : ∀ d ∈ tables_1, d.before a0 Z = true) (nk : Addr) (kk0 : ClassId) (O_nk : Sta Z Z.heap "com/example/hatoyama/hatoyama/IndexSet" "NO_KEYS" "[I" (.ref nk)) (V_nk : Arv Z Z.heap nk kk0 .int (0 : Int32) [] (.int (0 : Int32))) (nw : Addr) (kw0 : ClassId) (O_nw : Sta Z Z.heap "com/example/hatoyama/hatoyama/IndexSet" "NO_WORDS" "[J" (.ref nw)) (V_nw : Arv Z Z.heap nw kw0 .long (0 : Int32) [] (.long (0 : Int64))) (ws : List Jvm.Cond) (t : Addr) (kw : ClassId) (w0 : Int64) (h0 : Heap) (n0 : Nat) (Z0 : n0 ≤ h0.size) (At : Arv Z h0 t kw .long (1 : Int32) [(.long w0)] (.long (0 : Int64))) :
    own_MetN l Z (⟨"java/util/Arrays", "copyOf", "([JI)[J"⟩ : MethodName) jdk_65_method_124_code 3 (some (.array .long)) ws ({ frames := 1, cells := 1, slots := 2, locals := 27 } : Room) #[(.ref t), (.int (2 : Int32))] h0 (fun v h L => Fr n0 L ∧ Keep h0 h [] ∧ ((∃ (b : Addr) (kb : ClassId), (v = some (.ref b)) ∧ (h0.size ≤ b) ∧ (Arv Z h b kb .long (2 : Int32) [(.long w0), (.long (0 : Int64))] (.long (0 : Int64)))))) := by
  refine own_metN (plainFor_of_name own_pn2) ?_
  intro p e s m below meth c s₁ G hx hby hml hZ hown hnm hret X0 e0 go fin
  have N0 := Fr.nil n0
  refine go _ _ (fun _ k => castTop (own_ef_rmCJ1 m t (2 : Int32)) k) ?_
  show G (s₁.setTop (mkF m 0 #[.val (.ref t), .val (.int (2 : Int32)), .unset] []))
  refine go _ _ (fun _ k => XS.iloadN X0.here hx rfl (hb hby own_d11_0) rfl (XS.aloadN X0.here hx rfl (hb hby own_d11_1) rfl rfl k)) ?_
  show G (s₁.setTop (mkF m 2 #[.val (.ref t), .val (.int (2 : Int32)), .unset] [(.ref t), (.int (2 : Int32))]))
  obtain ⟨cl101, Ar101, q101, S101, M101, H101, U101⟩ := id At
  refine go _ _ (fun _ k => X0.arraylength hx (by rw [e0]; exact Ar101.1) (State.isArrayOf_alike hZ.alike Ar101.2.1) (g := (mkF m 2 #[.val (.ref t), .val (.int (2 : Int32)), .unset] [(.ref t), (.int (2 : Int32))])) rfl rfl (hb hby own_d11_2) _ k) ?_
  show G (s₁.setTop (mkF m 3 #[.val (.ref t), .val (.int (2 : Int32)), .unset] [(.int cl101.slots.size.toInt32), (.int (2 : Int32))]))
  rw [len_of S101 M101]
  show G (s₁.setTop (mkF m 3 #[.val (.ref t), .val (.int (2 : Int32)), .unset] [(.int (1 : Int32)), (.int (2 : Int32))]))
  refine go _ _ (fun _ k => XS.icmpYes X0.here hx rfl (pc0 := 3) (pc' := 14) rfl (hb hby own_d11_3) rfl (by decide) (by decide) (by decide) k) ?_
  show G (s₁.setTop (mkF m 14 #[.val (.ref t), .val (.int (2 : Int32)), .unset] []))
  refine go _ _ (fun _ k => XS.iloadN X0.here hx rfl (hb hby own_d11_14) rfl k) ?_
  show G (s₁.setTop (mkF m 15 #[.val (.ref t), .val (.int (2 : Int32)), .unset] [(.int (2 : Int32))]))
  obtain ⟨T102, h102, k102, X102, e102, E102, A102, st102⟩ := newP X0 hx hZ (ow hw 60 rfl) e0 (g := (mkF m 15 #[.val (.ref t), .val (.int (2 : Int32)), .unset] [(.int (2 : Int32))])) rfl (hb hby own_d11_15) rfl (by decide) (cap := 2) (by decide) (by decide) (by decide) (by decide)
  obtain ⟨b102, g102⟩ : ∃ z, z = h0.size := ⟨_, rfl⟩
  rw [← g102] at A102 st102
  have V102 : Arv Z h102 b102 k102 .long (2 : Int32) [(.long (0 : Int64)), (.long (0 : Int64))] (.long (0 : Int64)) := (Arv.new A102 (by decide)).pad (pad_rep [] (.long (0 : Int64)) 2)
  refine go _ _ (st102) ?_
  show G (T102.setTop (mkF m 17 #[.val (.ref t), .val (.int (2 : Int32)), .unset] [(.ref b102)]))
  refine go _ _ (fun _ k => XS.astoreN X102.here hx rfl (hb hby own_d11_17) rfl rfl (l' := #[.val (.ref t), .val (.int (2 : Int32)), .val (.ref b102)]) rfl (XS.aloadN X102.here hx rfl (hb hby own_d11_18) rfl rfl (XS.iconst X102.here hx rfl (hb hby own_d11_19) (XS.aloadN X102.here hx rfl (hb hby own_d11_20) rfl rfl (XS.iconst X102.here hx rfl (hb hby own_d11_21) (XS.aloadN X102.here hx rfl (hb hby own_d11_22) rfl rfl k)))))) ?_
  show G (T102.setTop (mkF m 23 #[.val (.ref t), .val (.int (2 : Int32)), .val (.ref b102)] [(.ref t), (.int (0 : Int32)), (.ref b102), (.int (0 : Int32)), (.ref t)]))
  have K104 : Keep h0 h102 [] := (Keep.refl h0 []).ext E102
  have F105 : Arv Z h102 t kw .long (1 : Int32) [(.long w0)] (.long (0 : Int64)) := (At.keep K104 nin0)
  obtain ⟨cl103, Ar103, q103, S103, M103, H103, U103⟩ := id F105
  refine go _ _ (fun _ k => X102.arraylength hx (by rw [e102]; exact Ar103.1) (State.isArrayOf_alike hZ.alike Ar103.2.1) (g := (mkF m 23 #[.val (.ref t), .val (.int (2 : Int32)), .val (.ref b102)] [(.ref t), (.int (0 : Int32)), (.ref b102), (.int (0 : Int32)), (.ref t)])) rfl rfl (hb hby own_d11_23) _ k) ?_
  show G (T102.setTop (mkF m 24 #[.val (.ref t), .val (.int (2 : Int32)), .val (.ref b102)] [(.int cl103.slots.size.toInt32), (.int (0 : Int32)), (.ref b102), (.int (0 : Int32)), (.ref t)]))
  rw [len_of S103 M103]
  show G (T102.setTop (mkF m 24 #[.val (.ref t), .val (.int (2 : Int32)), .val (.ref b102)] [(.int (1 : Int32)), (.int (0 : Int32)), (.ref b102), (.int (0 : Int32)), (.ref t)]))
  refine go _ _ (fun _ k => XS.iloadN X102.here hx rfl (hb hby own_d11_24) rfl k) ?_
  show G (T102.setTop (mkF m 25 #[.val (.ref t), .val (.int (2 : Int32)), .val (.ref b102)] [(.int (2 : Int32)), (.int (1 : Int32)), (.int (0 : Int32)), (.ref b102), (.int (0 : Int32)), (.ref t)]))
  have Z107 : h0.size ≤ h102.size := E102.1
  obtain ⟨rv106, T106, L106, X106, q106, st106⟩ := own_st X102 hx hZ (y := (⟨"java/lang/Math", "min", "(II)I"⟩ : MethodName)) hown (ow hw 50 rfl) (ow hw 51 rfl) (ow hw 44 rfl) (ow hw 52 rfl) (by decide) (own_bkN (W := 4) (rm10 l Z a0 hw nk kk0 O_nk V_nk nw kw0 O_nw V_nw [] (1 : Int32) (2 : Int32) h102 n0 (Nat.le_trans Z0 Z107)) hZ (ow hw 52 rfl) (ow hw 44 rfl) (by decide) (by decide)) e102 (g := (mkF m 25 #[.val (.ref t), .val (.int (2 : Int32)), .val (.ref b102)] [(.int (2 : Int32)), (.int (1 : Int32)), (.int (0 : Int32)), (.ref b102), (.int (0 : Int32)), (.ref t)])) rfl (by rw [hml]; rfl) (argsL := [(.int (1 : Int32)), (.int (2 : Int32))]) (rest := [(.int (0 : Int32)), (.ref b102), (.int (0 : Int32)), (.ref t)]) rfl (lenOf own_pd0 rfl) rfl (by show 2 * 0 + _ ≤ _; exact Nat.le_of_eq rfl) (hb hby own_d11_25) (by decide) (by decide)
  obtain ⟨Nq106, e106, q106⟩ := q106
  have N106 := Fr.app N0 Nq106
  rcases q106 with ⟨rfl, p108⟩ | ⟨rfl, p109⟩
  · exact absurd p108 (by decide)
  · refine go _ _ (st106) ?_
    show G (T106.setTop (mkF m 28 #[.val (.ref t), .val (.int (2 : Int32)), .val (.ref b102)] [(.int (1 : Int32)), (.int (0 : Int32)), (.ref b102), (.int (0 : Int32)), (.ref t)]))
    obtain ⟨T110, h110, L110, X110, e110, N110, Kp110, V110, st110⟩ := cpA X106 hx hZ hown (ow hw 53 rfl) (ow hw 56 rfl) (ow hw 54 rfl) (ow hw 55 rfl) e106 F105 V102 (us := [(.long w0)]) (Or.inl ⟨rfl, rfl⟩) (by decide) (by decide) (by decide) (by decide) (by decide) rfl (Nat.le_of_ble_eq_true rfl) N106 (Nat.le_trans Z0 (Nat.le_of_eq g102.symm)) (g := (mkF m 28 #[.val (.ref t), .val (.int (2 : Int32)), .val (.ref b102)] [(.int (1 : Int32)), (.int (0 : Int32)), (.ref b102), (.int (0 : Int32)), (.ref t)])) rfl (by rw [hml]; rfl) (rest := []) rfl (hb hby own_d11_28) (by decide) (W := 0) (by show 2 * 0 + _ ≤ _; exact Nat.le_of_eq rfl) (by decide)
    have Vq110 : Arv Z h110 b102 k102 .long (2 : Int32) [(.long w0), (.long (0 : Int64))] (.long (0 : Int64)) := V110
    refine go _ _ (st110) ?_
    show G (T110.setTop (mkF m 31 #[.val (.ref t), .val (.int (2 : Int32)), .val (.ref b102)] []))
    refine go _ _ (fun _ k => XS.aloadN X110.here hx rfl (hb hby own_d11_31) rfl rfl k) ?_
    show G (T110.setTop (mkF m 32 #[.val (.ref t), .val (.int (2 : Int32)), .val (.ref b102)] [(.ref b102)]))
    have K111 : Keep h0 h110 [] := K104.trans Kp110 (allS (Or.inr (Nat.le_of_eq g102.symm)) all0)
    refine fin T110 _ _ _ (some (.ref b102)) X110 (fun q => nomatch q) (by decide) (by decide) (by rw [e110]; exact ⟨N110, K111, ⟨b102, k102, rfl, (Nat.le_of_eq g102.symm), Vq110⟩⟩) _ (own_retA X110 hx hret rfl rfl rfl (hb hby own_d11_32))
theorem own_d6_15 : decode jdk_65_method_59_code 15 = .ok (.iload 4, 2) := by decide +kernel
theorem own_d6_17 : decode jdk_65_method_59_code 17 = .ok (.iload 5, 2) := by decide +kernel
theorem own_d6_19 : decode jdk_65_method_59_code 19 = .ok (.iadd, 1) := by decide +kernel
theorem own_d6_20 : decode jdk_65_method_59_code 20 = .ok (.iconst 1, 1) := by decide +kernel
theorem own_d6_21 : decode jdk_65_method_59_code 21 = .ok (.iushr, 1) := by decide +kernel
theorem own_d6_22 : decode jdk_65_method_59_code 22 = .ok (.istore 6, 2) := by decide +kernel
theorem own_d6_24 : decode jdk_65_method_59_code 24 = .ok (.aload_n 0, 1) := by decide +kernel
theorem own_d6_25 : decode jdk_65_method_59_code 25 = .ok (.iload 6, 2) := by decide +kernel
theorem own_d6_27 : decode jdk_65_method_59_code 27 = .ok (.iaload, 1) := by decide +kernel
theorem own_d6_28 : decode jdk_65_method_59_code 28 = .ok (.istore 7, 2) := by decide +kernel
theorem own_d6_30 : decode jdk_65_method_59_code 30 = .ok (.iload 7, 2) := by decide +kernel
theorem own_d6_32 : decode jdk_65_method_59_code 32 = .ok (.iload_n 3, 1) := by decide +kernel
theorem own_d6_33 : decode jdk_65_method_59_code 33 = .ok (.if_icmp .ge 12, 3) := by decide +kernel
theorem own_d6_36 : decode jdk_65_method_59_code 36 = .ok (.iload 6, 2) := by decide +kernel
theorem own_d6_38 : decode jdk_65_method_59_code 38 = .ok (.iconst 1, 1) := by decide +kernel
theorem own_d6_39 : decode jdk_65_method_59_code 39 = .ok (.iadd, 1) := by decide +kernel
theorem own_d6_40 : decode jdk_65_method_59_code 40 = .ok (.istore 4, 2) := by decide +kernel
theorem own_d6_42 : decode jdk_65_method_59_code 42 = .ok (.goto 21, 3) := by decide +kernel
theorem own_d6_63 : decode jdk_65_method_59_code 63 = .ok (.goto (-55), 3) := by decide +kernel
theorem own_d6_45 : decode jdk_65_method_59_code 45 = .ok (.iload 7, 2) := by decide +kernel
theorem own_d6_47 : decode jdk_65_method_59_code 47 = .ok (.iload_n 3, 1) := by decide +kernel
theorem own_d6_48 : decode jdk_65_method_59_code 48 = .ok (.if_icmp .le 12, 3) := by decide +kernel
theorem own_d6_51 : decode jdk_65_method_59_code 51 = .ok (.iload 6, 2) := by decide +kernel
theorem own_d6_53 : decode jdk_65_method_59_code 53 = .ok (.iconst 1, 1) := by decide +kernel
theorem own_d6_54 : decode jdk_65_method_59_code 54 = .ok (.isub, 1) := by decide +kernel
theorem own_d6_55 : decode jdk_65_method_59_code 55 = .ok (.istore 5, 2) := by decide +kernel
theorem own_d6_57 : decode jdk_65_method_59_code 57 = .ok (.goto 6, 3) := by decide +kernel
theorem own_d6_60 : decode jdk_65_method_59_code 60 = .ok (.iload 6, 2) := by decide +kernel
theorem own_d6_62 : decode jdk_65_method_59_code 62 = .ok (.ireturn, 1) := by decide +kernel
set_option maxHeartbeats 4000000 in
theorem own_ef_rmBZ1 (m : MethodId) (x0 : Addr) (x1 : Int32) (x2 : Int32) (x3 : Int32) : entryFrame m #[(.ref x0), (.int x1), (.int x2), (.int x3)] 8 = mkF m 0 #[.val (.ref x0), .val (.int x1), .val (.int x2), .val (.int x3), .unset, .unset, .unset, .unset] [] := by rfl
set_option maxRecDepth 65536 in
set_option maxHeartbeats 40000000 in
theorem rmBZ1 (l : Launch) (Z : State) (a0 : Array Value) (hw : ∀ d ∈ tables_1, d.before a0 Z = true) (nk : Addr) (kk0 : ClassId) (O_nk : Sta Z Z.heap "com/example/hatoyama/hatoyama/IndexSet" "NO_KEYS" "[I" (.ref nk)) (V_nk : Arv Z Z.heap nk kk0 .int (0 : Int32) [] (.int (0 : Int32))) (nw : Addr) (kw0 : ClassId) (O_nw : Sta Z Z.heap "com/example/hatoyama/hatoyama/IndexSet" "NO_WORDS" "[J" (.ref nw)) (V_nw : Arv Z Z.heap nw kw0 .long (0 : Int32) [] (.long (0 : Int64))) (ws : List Jvm.Cond) (t : Addr) (q : Int32) (kk : ClassId) (k0 : Int32) (h0 : Heap) (n0 : Nat) (Z0 : n0 ≤ h0.size) (At : Arv Z h0 t kk .int (1 : Int32) [(.int k0)] (.int (0 : Int32))) :
    own_MetN l Z (⟨"java/util/Arrays", "binarySearch0", "([IIII)I"⟩ : MethodName) jdk_65_method_59_code 8 (some .int) ws ({ frames := 0, cells := 0, slots := 0, locals := 0 } : Room) #[(.ref t), (.int (0 : Int32)), (.int (1 : Int32)), (.int q)] h0 (fun v h L => Fr n0 L ∧ h = h0 ∧ (((v = some (.int (-2 : Int32))) ∧ (k0 < q)) ∨ ((v = some (.int (-1 : Int32))) ∧ (q < k0)) ∨ ((v = some (.int (0 : Int32))) ∧ (k0 = q)))) := by
  refine own_metN (plainFor_of_name own_pn2) ?_
  intro p e s m below meth c s₁ G hx hby hml hZ hown hnm hret X0 e0 go fin
  have N0 := Fr.nil n0
  refine go _ _ (fun _ k => castTop (own_ef_rmBZ1 m t (0 : Int32) (1 : Int32) q) k) ?_
  show G (s₁.setTop (mkF m 0 #[.val (.ref t), .val (.int (0 : Int32)), .val (.int (1 : Int32)), .val (.int q), .unset, .unset, .unset, .unset] []))
  refine go _ _ (fun _ k => XS.iloadN X0.here hx rfl (hb hby own_d6_0) rfl (XS.istore X0.here hx rfl (hb hby own_d6_1) rfl (l' := #[.val (.ref t), .val (.int (0 : Int32)), .val (.int (1 : Int32)), .val (.int q), .val (.int (0 : Int32)), .unset, .unset, .unset]) rfl (XS.iloadN X0.here hx rfl (hb hby own_d6_3) rfl (XS.iconst X0.here hx rfl (hb hby own_d6_4) (XS.isub X0.here hx rfl (hb hby own_d6_5) rfl (XS.istore X0.here hx rfl (hb hby own_d6_6) rfl (l' := #[.val (.ref t), .val (.int (0 : Int32)), .val (.int (1 : Int32)), .val (.int q), .val (.int (0 : Int32)), .val (.int (0 : Int32)), .unset, .unset]) rfl k)))))) ?_
  show G (s₁.setTop (mkF m 8 #[.val (.ref t), .val (.int (0 : Int32)), .val (.int (1 : Int32)), .val (.int q), .val (.int (0 : Int32)), .val (.int (0 : Int32)), .unset, .unset] []))
  refine go _ _ (fun _ k => XS.iload X0.here hx rfl (hb hby own_d6_8) rfl (XS.iload X0.here hx rfl (hb hby own_d6_10) rfl k)) ?_
  show G (s₁.setTop (mkF m 12 #[.val (.ref t), .val (.int (0 : Int32)), .val (.int (1 : Int32)), .val (.int q), .val (.int (0 : Int32)), .val (.int (0 : Int32)), .unset, .unset] [(.int (0 : Int32)), (.int (0 : Int32))]))
  refine go _ _ (fun _ k => XS.icmpNo X0.here hx rfl (hb hby own_d6_12) rfl (by decide) k) ?_
  show G (s₁.setTop (mkF m 15 #[.val (.ref t), .val (.int (0 : Int32)), .val (.int (1 : Int32)), .val (.int q), .val (.int (0 : Int32)), .val (.int (0 : Int32)), .unset, .unset] []))
  refine go _ _ (fun _ k => XS.iload X0.here hx rfl (hb hby own_d6_15) rfl (XS.iload X0.here hx rfl (hb hby own_d6_17) rfl (XS.iadd X0.here hx rfl (hb hby own_d6_19) rfl (XS.iconst X0.here hx rfl (hb hby own_d6_20) (XS.iushr X0.here hx rfl (hb hby own_d6_21) rfl (XS.istore X0.here hx rfl (hb hby own_d6_22) rfl (l' := #[.val (.ref t), .val (.int (0 : Int32)), .val (.int (1 : Int32)), .val (.int q), .val (.int (0 : Int32)), .val (.int (0 : Int32)), .val (.int (0 : Int32)), .unset]) rfl k)))))) ?_
  show G (s₁.setTop (mkF m 24 #[.val (.ref t), .val (.int (0 : Int32)), .val (.int (1 : Int32)), .val (.int q), .val (.int (0 : Int32)), .val (.int (0 : Int32)), .val (.int (0 : Int32)), .unset] []))
  refine go _ _ (fun _ k => XS.aloadN X0.here hx rfl (hb hby own_d6_24) rfl rfl (XS.iload X0.here hx rfl (hb hby own_d6_25) rfl k)) ?_
  show G (s₁.setTop (mkF m 27 #[.val (.ref t), .val (.int (0 : Int32)), .val (.int (1 : Int32)), .val (.int q), .val (.int (0 : Int32)), .val (.int (0 : Int32)), .val (.int (0 : Int32)), .unset] [(.int (0 : Int32)), (.ref t)]))
  obtain ⟨cl101, Ar101, q101, S101, M101, H101, U101⟩ := id At
  refine go _ _ (fun _ k => X0.iaload hx (j := (0 : Int32)) (v := (.int k0)) (by rw [e0]; exact Ar101.1) (State.isArrayOf_alike hZ.alike Ar101.2.1) Ar101.2.2 (inb_of S101 ⟨by decide, by decide⟩) (Has.at H101 (inb_of S101 ⟨by decide, by decide⟩) rfl) (g := (mkF m 27 #[.val (.ref t), .val (.int (0 : Int32)), .val (.int (1 : Int32)), .val (.int q), .val (.int (0 : Int32)), .val (.int (0 : Int32)), .val (.int (0 : Int32)), .unset] [(.int (0 : Int32)), (.ref t)])) rfl rfl (hb hby own_d6_27) _ k) ?_
  show G (s₁.setTop (mkF m 28 #[.val (.ref t), .val (.int (0 : Int32)), .val (.int (1 : Int32)), .val (.int q), .val (.int (0 : Int32)), .val (.int (0 : Int32)), .val (.int (0 : Int32)), .unset] [(.int k0)]))
  refine go _ _ (fun _ k => XS.istore X0.here hx rfl (hb hby own_d6_28) rfl (l' := #[.val (.ref t), .val (.int (0 : Int32)), .val (.int (1 : Int32)), .val (.int q), .val (.int (0 : Int32)), .val (.int (0 : Int32)), .val (.int (0 : Int32)), .val (.int k0)]) rfl (XS.iload X0.here hx rfl (hb hby own_d6_30) rfl (XS.iloadN X0.here hx rfl (hb hby own_d6_32) rfl k))) ?_
  show G (s₁.setTop (mkF m 33 #[.val (.ref t), .val (.int (0 : Int32)), .val (.int (1 : Int32)), .val (.int q), .val (.int (0 : Int32)), .val (.int (0 : Int32)), .val (.int (0 : Int32)), .val (.int k0)] [(.int q), (.int k0)]))
  by_cases hc33_102 : k0 < q
  · refine go _ _ (fun _ k => XS.icmpNo X0.here hx rfl (hb hby own_d6_33) rfl (tlt hc33_102).2.1 k) ?_
    show G (s₁.setTop (mkF m 36 #[.val (.ref t), .val (.int (0 : Int32)), .val (.int (1 : Int32)), .val (.int q), .val (.int (0 : Int32)), .val (.int (0 : Int32)), .val (.int (0 : Int32)), .val (.int k0)] []))
    refine go _ _ (fun _ k => XS.iload X0.here hx rfl (hb hby own_d6_36) rfl (XS.iconst X0.here hx rfl (hb hby own_d6_38) (XS.iadd X0.here hx rfl (hb hby own_d6_39) rfl (XS.istore X0.here hx rfl (hb hby own_d6_40) rfl (l' := #[.val (.ref t), .val (.int (0 : Int32)), .val (.int (1 : Int32)), .val (.int q), .val (.int (1 : Int32)), .val (.int (0 : Int32)), .val (.int (0 : Int32)), .val (.int k0)]) rfl k)))) ?_
    show G (s₁.setTop (mkF m 42 #[.val (.ref t), .val (.int (0 : Int32)), .val (.int (1 : Int32)), .val (.int q), .val (.int (1 : Int32)), .val (.int (0 : Int32)), .val (.int (0 : Int32)), .val (.int k0)] []))
    refine go _ _ (fun _ k => XS.goto X0.here hx rfl (pc0 := 42) (pc' := 63) rfl (hb hby own_d6_42) (by decide) (by decide) k) ?_
    show G (s₁.setTop (mkF m 63 #[.val (.ref t), .val (.int (0 : Int32)), .val (.int (1 : Int32)), .val (.int q), .val (.int (1 : Int32)), .val (.int (0 : Int32)), .val (.int (0 : Int32)), .val (.int k0)] []))
    refine go _ _ (fun _ k => XS.goto X0.here hx rfl (pc0 := 63) (pc' := 8) rfl (hb hby own_d6_63) (by decide) (by decide) k) ?_
    show G (s₁.setTop (mkF m 8 #[.val (.ref t), .val (.int (0 : Int32)), .val (.int (1 : Int32)), .val (.int q), .val (.int (1 : Int32)), .val (.int (0 : Int32)), .val (.int (0 : Int32)), .val (.int k0)] []))
    refine go _ _ (fun _ k => XS.iload X0.here hx rfl (hb hby own_d6_8) rfl (XS.iload X0.here hx rfl (hb hby own_d6_10) rfl k)) ?_
    show G (s₁.setTop (mkF m 12 #[.val (.ref t), .val (.int (0 : Int32)), .val (.int (1 : Int32)), .val (.int q), .val (.int (1 : Int32)), .val (.int (0 : Int32)), .val (.int (0 : Int32)), .val (.int k0)] [(.int (0 : Int32)), (.int (1 : Int32))]))
    refine go _ _ (fun _ k => XS.icmpYes X0.here hx rfl (pc0 := 12) (pc' := 66) rfl (hb hby own_d6_12) rfl (by decide) (by decide) (by decide) k) ?_
    show G (s₁.setTop (mkF m 66 #[.val (.ref t), .val (.int (0 : Int32)), .val (.int (1 : Int32)), .val (.int q), .val (.int (1 : Int32)), .val (.int (0 : Int32)), .val (.int (0 : Int32)), .val (.int k0)] []))
    refine go _ _ (fun _ k => XS.iload X0.here hx rfl (hb hby own_d6_66) rfl (XS.iconst X0.here hx rfl (hb hby own_d6_68) (XS.iadd X0.here hx rfl (hb hby own_d6_69) rfl (XS.ineg X0.here hx rfl (hb hby own_d6_70) rfl k)))) ?_
    show G (s₁.setTop (mkF m 71 #[.val (.ref t), .val (.int (0 : Int32)), .val (.int (1 : Int32)), .val (.int q), .val (.int (1 : Int32)), .val (.int (0 : Int32)), .val (.int (0 : Int32)), .val (.int k0)] [(.int (-2 : Int32))]))
    refine fin s₁ _ _ _ (some (.int (-2 : Int32))) X0 (fun q => nomatch q) (by decide) (by decide) (by rw [e0]; exact ⟨N0, rfl, (Or.inl ⟨rfl, hc33_102⟩)⟩) _ (own_retI X0 hx hret (hb hby own_d6_71))
  · refine go _ _ (fun _ k => XS.icmpYes X0.here hx rfl (pc0 := 33) (pc' := 45) rfl (hb hby own_d6_33) rfl (flt hc33_102).2.1 (by decide) (by decide) k) ?_
    show G (s₁.setTop (mkF m 45 #[.val (.ref t), .val (.int (0 : Int32)), .val (.int (1 : Int32)), .val (.int q), .val (.int (0 : Int32)), .val (.int (0 : Int32)), .val (.int (0 : Int32)), .val (.int k0)] []))
    refine go _ _ (fun _ k => XS.iload X0.here hx rfl (hb hby own_d6_45) rfl (XS.iloadN X0.here hx rfl (hb hby own_d6_47) rfl k)) ?_
    show G (s₁.setTop (mkF m 48 #[.val (.ref t), .val (.int (0 : Int32)), .val (.int (1 : Int32)), .val (.int q), .val (.int (0 : Int32)), .val (.int (0 : Int32)), .val (.int (0 : Int32)), .val (.int k0)] [(.int q), (.int k0)]))
    by_cases hc48_103 : q < k0
    · refine go _ _ (fun _ k => XS.icmpNo X0.here hx rfl (hb hby own_d6_48) rfl (tlt hc48_103).2.2.2 k) ?_
      show G (s₁.setTop (mkF m 51 #[.val (.ref t), .val (.int (0 : Int32)), .val (.int (1 : Int32)), .val (.int q), .val (.int (0 : Int32)), .val (.int (0 : Int32)), .val (.int (0 : Int32)), .val (.int k0)] []))
      refine go _ _ (fun _ k => XS.iload X0.here hx rfl (hb hby own_d6_51) rfl (XS.iconst X0.here hx rfl (hb hby own_d6_53) (XS.isub X0.here hx rfl (hb hby own_d6_54) rfl (XS.istore X0.here hx rfl (hb hby own_d6_55) rfl (l' := #[.val (.ref t), .val (.int (0 : Int32)), .val (.int (1 : Int32)), .val (.int q), .val (.int (0 : Int32)), .val (.int (-1 : Int32)), .val (.int (0 : Int32)), .val (.int k0)]) rfl k)))) ?_
      show G (s₁.setTop (mkF m 57 #[.val (.ref t), .val (.int (0 : Int32)), .val (.int (1 : Int32)), .val (.int q), .val (.int (0 : Int32)), .val (.int (-1 : Int32)), .val (.int (0 : Int32)), .val (.int k0)] []))
      refine go _ _ (fun _ k => XS.goto X0.here hx rfl (pc0 := 57) (pc' := 63) rfl (hb hby own_d6_57) (by decide) (by decide) k) ?_
      show G (s₁.setTop (mkF m 63 #[.val (.ref t), .val (.int (0 : Int32)), .val (.int (1 : Int32)), .val (.int q), .val (.int (0 : Int32)), .val (.int (-1 : Int32)), .val (.int (0 : Int32)), .val (.int k0)] []))
      refine go _ _ (fun _ k => XS.goto X0.here hx rfl (pc0 := 63) (pc' := 8) rfl (hb hby own_d6_63) (by decide) (by decide) k) ?_
      show G (s₁.setTop (mkF m 8 #[.val (.ref t), .val (.int (0 : Int32)), .val (.int (1 : Int32)), .val (.int q), .val (.int (0 : Int32)), .val (.int (-1 : Int32)), .val (.int (0 : Int32)), .val (.int k0)] []))
      refine go _ _ (fun _ k => XS.iload X0.here hx rfl (hb hby own_d6_8) rfl (XS.iload X0.here hx rfl (hb hby own_d6_10) rfl k)) ?_
      show G (s₁.setTop (mkF m 12 #[.val (.ref t), .val (.int (0 : Int32)), .val (.int (1 : Int32)), .val (.int q), .val (.int (0 : Int32)), .val (.int (-1 : Int32)), .val (.int (0 : Int32)), .val (.int k0)] [(.int (-1 : Int32)), (.int (0 : Int32))]))
      refine go _ _ (fun _ k => XS.icmpYes X0.here hx rfl (pc0 := 12) (pc' := 66) rfl (hb hby own_d6_12) rfl (by decide) (by decide) (by decide) k) ?_
      show G (s₁.setTop (mkF m 66 #[.val (.ref t), .val (.int (0 : Int32)), .val (.int (1 : Int32)), .val (.int q), .val (.int (0 : Int32)), .val (.int (-1 : Int32)), .val (.int (0 : Int32)), .val (.int k0)] []))
      refine go _ _ (fun _ k => XS.iload X0.here hx rfl (hb hby own_d6_66) rfl (XS.iconst X0.here hx rfl (hb hby own_d6_68) (XS.iadd X0.here hx rfl (hb hby own_d6_69) rfl (XS.ineg X0.here hx rfl (hb hby own_d6_70) rfl k)))) ?_
      show G (s₁.setTop (mkF m 71 #[.val (.ref t), .val (.int (0 : Int32)), .val (.int (1 : Int32)), .val (.int q), .val (.int (0 : Int32)), .val (.int (-1 : Int32)), .val (.int (0 : Int32)), .val (.int k0)] [(.int (-1 : Int32))]))
      refine fin s₁ _ _ _ (some (.int (-1 : Int32))) X0 (fun q => nomatch q) (by decide) (by decide) (by rw [e0]; exact ⟨N0, rfl, (Or.inr (Or.inl ⟨rfl, hc48_103⟩))⟩) _ (own_retI X0 hx hret (hb hby own_d6_71))
    · refine go _ _ (fun _ k => XS.icmpYes X0.here hx rfl (pc0 := 48) (pc' := 60) rfl (hb hby own_d6_48) rfl (flt hc48_103).2.2.2 (by decide) (by decide) k) ?_
      show G (s₁.setTop (mkF m 60 #[.val (.ref t), .val (.int (0 : Int32)), .val (.int (1 : Int32)), .val (.int q), .val (.int (0 : Int32)), .val (.int (0 : Int32)), .val (.int (0 : Int32)), .val (.int k0)] []))
      refine go _ _ (fun _ k => XS.iload X0.here hx rfl (hb hby own_d6_60) rfl k) ?_
      show G (s₁.setTop (mkF m 62 #[.val (.ref t), .val (.int (0 : Int32)), .val (.int (1 : Int32)), .val (.int q), .val (.int (0 : Int32)), .val (.int (0 : Int32)), .val (.int (0 : Int32)), .val (.int k0)] [(.int (0 : Int32))]))
      refine fin s₁ _ _ _ (some (.int (0 : Int32))) X0 (fun q => nomatch q) (by decide) (by decide) (by rw [e0]; exact ⟨N0, rfl, (Or.inr (Or.inr ⟨rfl, (own_ee hc33_102 hc48_103)⟩))⟩) _ (own_retI X0 hx hret (hb hby own_d6_62))
set_option maxHeartbeats 4000000 in
theorem own_ef_rmRC1 (m : MethodId) (x0 : Int32) (x1 : Int32) (x2 : Int32) : entryFrame m #[(.int x0), (.int x1), (.int x2)] 3 = mkF m 0 #[.val (.int x0), .val (.int x1), .val (.int x2)] [] := by rfl
set_option maxRecDepth 65536 in
set_option maxHeartbeats 40000000 in
theorem rmRC1 (l : Launch) (Z : State) (a0 : Array Value) (hw : ∀ d ∈ tables_1, d.before a0 Z = true) (nk : Addr) (kk0 : ClassId) (O_nk : Sta Z Z.heap "com/example/hatoyama/hatoyama/IndexSet" "NO_KEYS" "[I" (.ref nk)) (V_nk : Arv Z Z.heap nk kk0 .int (0 : Int32) [] (.int (0 : Int32))) (nw : Addr) (kw0 : ClassId) (O_nw : Sta Z Z.heap "com/example/hatoyama/hatoyama/IndexSet" "NO_WORDS" "[J" (.ref nw)) (V_nw : Arv Z Z.heap nw kw0 .long (0 : Int32) [] (.long (0 : Int64))) (ws : List Jvm.Cond) (h0 : Heap) (n0 : Nat) (Z0 : n0 ≤ h0.size) :
    own_MetN l Z (⟨"java/util/Arrays", "rangeCheck", "(III)V"⟩ : MethodName) jdk_65_method_30_code 3 none ws ({ frames := 0, cells := 0, slots := 0, locals := 0 } : Room) #[(.int (1 : Int32)), (.int (0 : Int32)), (.int (1 : Int32))] h0 (fun v h L => Fr n0 L ∧ h = h0 ∧ (((v = none)))) := by
  refine own_metN (plainFor_of_name own_pn2) ?_
  intro p e s m below meth c s₁ G hx hby hml hZ hown hnm hret X0 e0 go fin
  have N0 := Fr.nil n0
  refine go _ _ (fun _ k => castTop (own_ef_rmRC1 m (1 : Int32) (0 : Int32) (1 : Int32)) k) ?_
  show G (s₁.setTop (mkF m 0 #[.val (.int (1 : Int32)), .val (.int (0 : Int32)), .val (.int (1 : Int32))] []))
  refine go _ _ (fun _ k => XS.iloadN X0.here hx rfl (hb hby own_d5_0) rfl (XS.iloadN X0.here hx rfl (hb hby own_d5_1) rfl k)) ?_
  show G (s₁.setTop (mkF m 2 #[.val (.int (1 : Int32)), .val (.int (0 : Int32)), .val (.int (1 : Int32))] [(.int (1 : Int32)), (.int (0 : Int32))]))
  refine go _ _ (fun _ k => XS.icmpYes X0.here hx rfl (pc0 := 2) (pc' := 46) rfl (hb hby own_d5_2) rfl (by decide) (by decide) (by decide) k) ?_
  show G (s₁.setTop (mkF m 46 #[.val (.int (1 : Int32)), .val (.int (0 : Int32)), .val (.int (1 : Int32))] []))
  refine go _ _ (fun _ k => XS.iloadN X0.here hx rfl (hb hby own_d5_46) rfl k) ?_
  show G (s₁.setTop (mkF m 47 #[.val (.int (1 : Int32)), .val (.int (0 : Int32)), .val (.int (1 : Int32))] [(.int (0 : Int32))]))
  refine go _ _ (fun _ k => XS.ifYes X0.here hx rfl (pc0 := 47) (pc' := 59) rfl (hb hby own_d5_47) rfl (by decide) (by decide) (by decide) k) ?_
  show G (s₁.setTop (mkF m 59 #[.val (.int (1 : Int32)), .val (.int (0 : Int32)), .val (.int (1 : Int32))] []))
  refine go _ _ (fun _ k => XS.iloadN X0.here hx rfl (hb hby own_d5_59) rfl (XS.iloadN X0.here hx rfl (hb hby own_d5_60) rfl k)) ?_
  show G (s₁.setTop (mkF m 61 #[.val (.int (1 : Int32)), .val (.int (0 : Int32)), .val (.int (1 : Int32))] [(.int (1 : Int32)), (.int (1 : Int32))]))
  refine go _ _ (fun _ k => XS.icmpYes X0.here hx rfl (pc0 := 61) (pc' := 73) rfl (hb hby own_d5_61) rfl (by decide) (by decide) (by decide) k) ?_
  show G (s₁.setTop (mkF m 73 #[.val (.int (1 : Int32)), .val (.int (0 : Int32)), .val (.int (1 : Int32))] []))
  refine fin s₁ _ _ _ none X0 (fun _ => rfl) (by decide) (by decide) (by rw [e0]; exact ⟨N0, rfl, rfl⟩) _ (own_retV X0 hx hret (hb hby own_d5_73))
set_option maxHeartbeats 4000000 in
theorem own_ef_rmBS1 (m : MethodId) (x0 : Addr) (x1 : Int32) (x2 : Int32) (x3 : Int32) : entryFrame m #[(.ref x0), (.int x1), (.int x2), (.int x3)] 4 = mkF m 0 #[.val (.ref x0), .val (.int x1), .val (.int x2), .val (.int x3)] [] := by rfl
set_option maxRecDepth 65536 in
set_option maxHeartbeats 40000000 in
theorem rmBS1 (l : Launch) (Z : State) (a0 : Array Value) (hw : ∀ d ∈ tables_1, d.before a0 Z = true) (nk : Addr) (kk0 : ClassId) (O_nk : Sta Z Z.heap "com/example/hatoyama/hatoyama/IndexSet" "NO_KEYS" "[I" (.ref nk)) (V_nk : Arv Z Z.heap nk kk0 .int (0 : Int32) [] (.int (0 : Int32))) (nw : Addr) (kw0 : ClassId) (O_nw : Sta Z Z.heap "com/example/hatoyama/hatoyama/IndexSet" "NO_WORDS" "[J" (.ref nw)) (V_nw : Arv Z Z.heap nw kw0 .long (0 : Int32) [] (.long (0 : Int64))) (ws : List Jvm.Cond) (t : Addr) (q : Int32) (kk : ClassId) (k0 : Int32) (h0 : Heap) (n0 : Nat) (Z0 : n0 ≤ h0.size) (At : Arv Z h0 t kk .int (1 : Int32) [(.int k0)] (.int (0 : Int32))) :
    own_MetN l Z (⟨"java/util/Arrays", "binarySearch", "([IIII)I"⟩ : MethodName) jdk_65_method_58_code 4 (some .int) ws ({ frames := 1, cells := 0, slots := 0, locals := 19 } : Room) #[(.ref t), (.int (0 : Int32)), (.int (1 : Int32)), (.int q)] h0 (fun v h L => Fr n0 L ∧ h = h0 ∧ (((v = some (.int (-2 : Int32))) ∧ (k0 < q)) ∨ ((v = some (.int (-1 : Int32))) ∧ (q < k0)) ∨ ((v = some (.int (0 : Int32))) ∧ (k0 = q)))) := by
  refine own_metN (plainFor_of_name own_pn2) ?_
  intro p e s m below meth c s₁ G hx hby hml hZ hown hnm hret X0 e0 go fin
  have N0 := Fr.nil n0
  refine go _ _ (fun _ k => castTop (own_ef_rmBS1 m t (0 : Int32) (1 : Int32) q) k) ?_
  show G (s₁.setTop (mkF m 0 #[.val (.ref t), .val (.int (0 : Int32)), .val (.int (1 : Int32)), .val (.int q)] []))
  refine go _ _ (fun _ k => XS.aloadN X0.here hx rfl (hb hby own_d4_0) rfl rfl k) ?_
  show G (s₁.setTop (mkF m 1 #[.val (.ref t), .val (.int (0 : Int32)), .val (.int (1 : Int32)), .val (.int q)] [(.ref t)]))
  obtain ⟨cl101, Ar101, q101, S101, M101, H101, U101⟩ := id At
  refine go _ _ (fun _ k => X0.arraylength hx (by rw [e0]; exact Ar101.1) (State.isArrayOf_alike hZ.alike Ar101.2.1) (g := (mkF m 1 #[.val (.ref t), .val (.int (0 : Int32)), .val (.int (1 : Int32)), .val (.int q)] [(.ref t)])) rfl rfl (hb hby own_d4_1) _ k) ?_
  show G (s₁.setTop (mkF m 2 #[.val (.ref t), .val (.int (0 : Int32)), .val (.int (1 : Int32)), .val (.int q)] [(.int cl101.slots.size.toInt32)]))
  rw [len_of S101 M101]
  show G (s₁.setTop (mkF m 2 #[.val (.ref t), .val (.int (0 : Int32)), .val (.int (1 : Int32)), .val (.int q)] [(.int (1 : Int32))]))
  refine go _ _ (fun _ k => XS.iloadN X0.here hx rfl (hb hby own_d4_2) rfl (XS.iloadN X0.here hx rfl (hb hby own_d4_3) rfl k)) ?_
  show G (s₁.setTop (mkF m 4 #[.val (.ref t), .val (.int (0 : Int32)), .val (.int (1 : Int32)), .val (.int q)] [(.int (1 : Int32)), (.int (0 : Int32)), (.int (1 : Int32))]))
  obtain ⟨rv102, T102, L102, X102, q102, st102⟩ := own_st X0 hx hZ (y := (⟨"java/util/Arrays", "rangeCheck", "(III)V"⟩ : MethodName)) hown (ow hw 32 rfl) (ow hw 33 rfl) (ow hw 30 rfl) (ow hw 34 rfl) (by decide) (own_bkN (W := 0) (rmRC1 l Z a0 hw nk kk0 O_nk V_nk nw kw0 O_nw V_nw [] h0 n0 Z0) hZ (ow hw 34 rfl) (ow hw 30 rfl) (by decide) (by decide)) e0 (g := (mkF m 4 #[.val (.ref t), .val (.int (0 : Int32)), .val (.int (1 : Int32)), .val (.int q)] [(.int (1 : Int32)), (.int (0 : Int32)), (.int (1 : Int32))])) rfl (by rw [hml]; rfl) (argsL := [(.int (1 : Int32)), (.int (0 : Int32)), (.int (1 : Int32))]) (rest := []) rfl (lenOf own_pd1 rfl) rfl (by show 2 * 0 + _ ≤ _; exact Nat.le_of_eq rfl) (hb hby own_d4_4) (by decide) (by decide)
  obtain ⟨Nq102, e102, rfl⟩ := q102
  have N102 := Fr.app N0 Nq102
  refine go _ _ (st102) ?_
  show G (T102.setTop (mkF m 7 #[.val (.ref t), .val (.int (0 : Int32)), .val (.int (1 : Int32)), .val (.int q)] []))
  refine go _ _ (fun _ k => XS.aloadN X102.here hx rfl (hb hby own_d4_7) rfl rfl (XS.iloadN X102.here hx rfl (hb hby own_d4_8) rfl (XS.iloadN X102.here hx rfl (hb hby own_d4_9) rfl (XS.iloadN X102.here hx rfl (hb hby own_d4_10) rfl k)))) ?_
  show G (T102.setTop (mkF m 11 #[.val (.ref t), .val (.int (0 : Int32)), .val (.int (1 : Int32)), .val (.int q)] [(.int q), (.int (1 : Int32)), (.int (0 : Int32)), (.ref t)]))
  obtain ⟨rv103, T103, L103, X103, q103, st103⟩ := own_st X102 hx hZ (y := (⟨"java/util/Arrays", "binarySearch0", "([IIII)I"⟩ : MethodName)) hown (ow hw 35 rfl) (ow hw 36 rfl) (ow hw 30 rfl) (ow hw 37 rfl) (by decide) (own_bkN (W := 0) (rmBZ1 l Z a0 hw nk kk0 O_nk V_nk nw kw0 O_nw V_nw [] t q kk k0 h0 n0 Z0 At) hZ (ow hw 37 rfl) (ow hw 30 rfl) (by decide) (by decide)) e102 (g := (mkF m 11 #[.val (.ref t), .val (.int (0 : Int32)), .val (.int (1 : Int32)), .val (.int q)] [(.int q), (.int (1 : Int32)), (.int (0 : Int32)), (.ref t)])) rfl (by rw [hml]; rfl) (argsL := [(.ref t), (.int (0 : Int32)), (.int (1 : Int32)), (.int q)]) (rest := []) rfl (lenOf own_pd2 rfl) rfl (by show 2 * 0 + _ ≤ _; exact Nat.le_of_eq rfl) (hb hby own_d4_11) (by decide) (by decide)
  obtain ⟨Nq103, e103, q103⟩ := q103
  have N103 := Fr.app N102 Nq103
  rcases q103 with ⟨rfl, p104⟩ | ⟨rfl, p105⟩ | ⟨rfl, p106⟩
  · refine go _ _ (st103) ?_
    show G (T103.setTop (mkF m 14 #[.val (.ref t), .val (.int (0 : Int32)), .val (.int (1 : Int32)), .val (.int q)] [(.int (-2 : Int32))]))
    refine fin T103 _ _ _ (some (.int (-2 : Int32))) X103 (fun q => nomatch q) (by decide) (by decide) (by rw [e103]; exact ⟨N103, rfl, (Or.inl ⟨rfl, p104⟩)⟩) _ (own_retI X103 hx hret (hb hby own_d4_14))
  · refine go _ _ (st103) ?_
    show G (T103.setTop (mkF m 14 #[.val (.ref t), .val (.int (0 : Int32)), .val (.int (1 : Int32)), .val (.int q)] [(.int (-1 : Int32))]))
    refine fin T103 _ _ _ (some (.int (-1 : Int32))) X103 (fun q => nomatch q) (by decide) (by decide) (by rw [e103]; exact ⟨N103, rfl, (Or.inr (Or.inl ⟨rfl, p105⟩))⟩) _ (own_retI X103 hx hret (hb hby own_d4_14))
  · refine go _ _ (st103) ?_
    show G (T103.setTop (mkF m 14 #[.val (.ref t), .val (.int (0 : Int32)), .val (.int (1 : Int32)), .val (.int q)] [(.int (0 : Int32))]))
    refine fin T103 _ _ _ (some (.int (0 : Int32))) X103 (fun q => nomatch q) (by decide) (by decide) (by rw [e103]; exact ⟨N103, rfl, (Or.inr (Or.inr ⟨rfl, p106⟩))⟩) _ (own_retI X103 hx hret (hb hby own_d4_14))
set_option maxHeartbeats 4000000 in
theorem own_ef_rmRoom1 (m : MethodId) (x0 : Addr) (x1 : Int32) : entryFrame m #[(.ref x0), (.int x1)] 3 = mkF m 0 #[.val (.ref x0), .val (.int x1), .unset] [] := by rfl
set_option maxRecDepth 65536 in
set_option maxHeartbeats 40000000 in
theorem rmRoom1 (l : Launch) (Z : State) (a0 : Array Value) (hw : ∀ d ∈ tables_1, d.before a0 Z = true) (nk : Addr) (kk0 : ClassId) (O_nk : Sta Z Z.heap "com/example/hatoyama/hatoyama/IndexSet" "NO_KEYS" "[I" (.ref nk)) (V_nk : Arv Z Z.heap nk kk0 .int (0 : Int32) [] (.int (0 : Int32))) (nw : Addr) (kw0 : ClassId) (O_nw : Sta Z Z.heap "com/example/hatoyama/hatoyama/IndexSet" "NO_WORDS" "[J" (.ref nw)) (V_nw : Arv Z Z.heap nw kw0 .long (0 : Int32) [] (.long (0 : Int64))) (ws : List Jvm.Cond) (a : Addr) (kt : Addr) (wt : Addr) (kk : ClassId) (k0 : Int32) (kw : ClassId) (w0 : Int64) (h0 : Heap) (n0 : Nat) (Z0 : n0 ≤ h0.size) (Xo : Old Z n0 h0) (Ea : Exa Z h0 a "com/example/hatoyama/hatoyama/IndexSet") (Fk : Fld Z h0 a "com/example/hatoyama/hatoyama/IndexSet" "keys" "[I" (.ref kt)) (Fw : Fld Z h0 a "com/example/hatoyama/hatoyama/IndexSet" "words" "[J" (.ref wt)) (Fu : Fld Z h0 a "com/example/hatoyama/hatoyama/IndexSet" "used" "I" (.int (1 : Int32))) (Ak : Arv Z h0 kt kk .int (1 : Int32) [(.int k0)] (.int (0 : Int32))) (Aw : Arv Z h0 wt kw .long (1 : Int32) [(.long w0)] (.long (0 : Int64))) (gz_a : n0 ≤ a) :
    own_MetN l Z (⟨"com/example/hatoyama/hatoyama/IndexSet", "room", "(I)V"⟩ : MethodName) prog_3_method_10_code 3 none ws ({ frames := 2, cells := 2, slots := 4, locals := 42 } : Room) #[(.ref a), (.int (2 : Int32))] h0 (fun v h L => Fr n0 L ∧ Keep h0 h [a] ∧ ((∃ (kt2 : Addr) (wt2 : Addr) (kk2 : ClassId) (kw2 : ClassId), (v = none) ∧ (h0.size ≤ kt2) ∧ (h0.size ≤ wt2) ∧ (Exa Z h a "com/example/hatoyama/hatoyama/IndexSet") ∧ (Fld Z h a "com/example/hatoyama/hatoyama/IndexSet" "used" "I" (.int (1 : Int32))) ∧ (Fld Z h a "com/example/hatoyama/hatoyama/IndexSet" "keys" "[I" (.ref kt2)) ∧ (Fld Z h a "com/example/hatoyama/hatoyama/IndexSet" "words" "[J" (.ref wt2)) ∧ (Arv Z h kt2 kk2 .int (2 : Int32) [(.int k0), (.int (0 : Int32))] (.int (0 : Int32))) ∧ (Arv Z h wt2 kw2 .long (2 : Int32) [(.long w0), (.long (0 : Int64))] (.long (0 : Int64)))))) := by
  refine own_metN (plainFor_of_name own_pn0) ?_
  intro p e s m below meth c s₁ G hx hby hml hZ hown hnm hret X0 e0 go fin
  have N0 := Fr.nil n0
  refine go _ _ (fun _ k => castTop (own_ef_rmRoom1 m a (2 : Int32)) k) ?_
  show G (s₁.setTop (mkF m 0 #[.val (.ref a), .val (.int (2 : Int32)), .unset] []))
  refine go _ _ (fun _ k => XS.iloadN X0.here hx rfl (hb hby own_d7_0) rfl (XS.aloadN X0.here hx rfl (hb hby own_d7_1) rfl rfl k)) ?_
  show G (s₁.setTop (mkF m 2 #[.val (.ref a), .val (.int (2 : Int32)), .unset] [(.ref a), (.int (2 : Int32))]))
  obtain ⟨T101, X101, e101, st101⟩ := getF X0 hx hZ hown (host := "") (Or.inl (ow hw 11 rfl)) Via.refl e0 Fk (g := (mkF m 2 #[.val (.ref a), .val (.int (2 : Int32)), .unset] [(.ref a), (.int (2 : Int32))])) rfl rfl (hb hby own_d7_2)
  refine go _ _ (st101) ?_
  show G (T101.setTop (mkF m 5 #[.val (.ref a), .val (.int (2 : Int32)), .unset] [(.ref kt), (.int (2 : Int32))]))
  obtain ⟨cl102, Ar102, q102, S102, M102, H102, U102⟩ := id Ak
  refine go _ _ (fun _ k => X101.arraylength hx (by rw [e101]; exact Ar102.1) (State.isArrayOf_alike hZ.alike Ar102.2.1) (g := (mkF m 5 #[.val (.ref a), .val (.int (2 : Int32)), .unset] [(.ref kt), (.int (2 : Int32))])) rfl rfl (hb hby own_d7_5) _ k) ?_
  show G (T101.setTop (mkF m 6 #[.val (.ref a), .val (.int (2 : Int32)), .unset] [(.int cl102.slots.size.toInt32), (.int (2 : Int32))]))
  rw [len_of S102 M102]
  show G (T101.setTop (mkF m 6 #[.val (.ref a), .val (.int (2 : Int32)), .unset] [(.int (1 : Int32)), (.int (2 : Int32))]))
  refine go _ _ (fun _ k => XS.icmpNo X101.here hx rfl (hb hby own_d7_6) rfl (by decide) k) ?_
  show G (T101.setTop (mkF m 9 #[.val (.ref a), .val (.int (2 : Int32)), .unset] []))
  refine go _ _ (fun _ k => XS.iloadN X101.here hx rfl (hb hby own_d7_9) rfl (XS.aloadN X101.here hx rfl (hb hby own_d7_10) rfl rfl k)) ?_
  show G (T101.setTop (mkF m 11 #[.val (.ref a), .val (.int (2 : Int32)), .unset] [(.ref a), (.int (2 : Int32))]))
  obtain ⟨T103, X103, e103, st103⟩ := getF X101 hx hZ hown (host := "") (Or.inl (ow hw 26 rfl)) Via.refl e101 Fu (g := (mkF m 11 #[.val (.ref a), .val (.int (2 : Int32)), .unset] [(.ref a), (.int (2 : Int32))])) rfl rfl (hb hby own_d7_11)
  refine go _ _ (st103) ?_
  show G (T103.setTop (mkF m 14 #[.val (.ref a), .val (.int (2 : Int32)), .unset] [(.int (1 : Int32)), (.int (2 : Int32))]))
  refine go _ _ (fun _ k => XS.aloadN X103.here hx rfl (hb hby own_d7_14) rfl rfl k) ?_
  show G (T103.setTop (mkF m 15 #[.val (.ref a), .val (.int (2 : Int32)), .unset] [(.ref a), (.int (1 : Int32)), (.int (2 : Int32))]))
  obtain ⟨T104, X104, e104, st104⟩ := getF X103 hx hZ hown (host := "") (Or.inl (ow hw 26 rfl)) Via.refl e103 Fu (g := (mkF m 15 #[.val (.ref a), .val (.int (2 : Int32)), .unset] [(.ref a), (.int (1 : Int32)), (.int (2 : Int32))])) rfl rfl (hb hby own_d7_15)
  refine go _ _ (st104) ?_
  show G (T104.setTop (mkF m 18 #[.val (.ref a), .val (.int (2 : Int32)), .unset] [(.int (1 : Int32)), (.int (1 : Int32)), (.int (2 : Int32))]))
  refine go _ _ (fun _ k => XS.iconst X104.here hx rfl (hb hby own_d7_18) (XS.ishr X104.here hx rfl (hb hby own_d7_19) rfl (XS.iadd X104.here hx rfl (hb hby own_d7_20) rfl k))) ?_
  show G (T104.setTop (mkF m 21 #[.val (.ref a), .val (.int (2 : Int32)), .unset] [(.int (1 : Int32)), (.int (2 : Int32))]))
  obtain ⟨rv105, T105, L105, X105, q105, st105⟩ := own_st X104 hx hZ (y := (⟨"java/lang/Math", "max", "(II)I"⟩ : MethodName)) hown (ow hw 42 rfl) (ow hw 43 rfl) (ow hw 44 rfl) (ow hw 45 rfl) (by decide) (own_bkN (W := 0) (rm8 l Z a0 hw nk kk0 O_nk V_nk nw kw0 O_nw V_nw [] (2 : Int32) (1 : Int32) h0 n0 Z0) hZ (ow hw 45 rfl) (ow hw 44 rfl) (by decide) (by decide)) e104 (g := (mkF m 21 #[.val (.ref a), .val (.int (2 : Int32)), .unset] [(.int (1 : Int32)), (.int (2 : Int32))])) rfl (by rw [hml]; rfl) (argsL := [(.int (2 : Int32)), (.int (1 : Int32))]) (rest := []) rfl (lenOf own_pd0 rfl) rfl (by show 2 * 0 + _ ≤ _; exact Nat.le_of_eq rfl) (hb hby own_d7_21) (by decide) (by decide)
  obtain ⟨Nq105, e105, q105⟩ := q105
  have N105 := Fr.app N0 Nq105
  rcases q105 with ⟨rfl, p106⟩ | ⟨rfl, p107⟩
  · exact absurd p106 (by decide)
  · refine go _ _ (st105) ?_
    show G (T105.setTop (mkF m 24 #[.val (.ref a), .val (.int (2 : Int32)), .unset] [(.int (2 : Int32))]))
    refine go _ _ (fun _ k => XS.istoreN X105.here hx rfl (hb hby own_d7_24) rfl (l' := #[.val (.ref a), .val (.int (2 : Int32)), .val (.int (2 : Int32))]) rfl (XS.aloadN X105.here hx rfl (hb hby own_d7_25) rfl rfl (XS.aloadN X105.here hx rfl (hb hby own_d7_26) rfl rfl k))) ?_
    show G (T105.setTop (mkF m 27 #[.val (.ref a), .val (.int (2 : Int32)), .val (.int (2 : Int32))] [(.ref a), (.ref a)]))
    obtain ⟨T108, X108, e108, st108⟩ := getF X105 hx hZ hown (host := "") (Or.inl (ow hw 11 rfl)) Via.refl e105 Fk (g := (mkF m 27 #[.val (.ref a), .val (.int (2 : Int32)), .val (.int (2 : Int32))] [(.ref a), (.ref a)])) rfl rfl (hb hby own_d7_27)
    refine go _ _ (st108) ?_
    show G (T108.setTop (mkF m 30 #[.val (.ref a), .val (.int (2 : Int32)), .val (.int (2 : Int32))] [(.ref kt), (.ref a)]))
    refine go _ _ (fun _ k => XS.iloadN X108.here hx rfl (hb hby own_d7_30) rfl k) ?_
    show G (T108.setTop (mkF m 31 #[.val (.ref a), .val (.int (2 : Int32)), .val (.int (2 : Int32))] [(.int (2 : Int32)), (.ref kt), (.ref a)]))
    obtain ⟨rv109, T109, L109, X109, q109, st109⟩ := own_st X108 hx hZ (y := (⟨"java/util/Arrays", "copyOf", "([II)[I"⟩ : MethodName)) hown (ow hw 46 rfl) (ow hw 47 rfl) (ow hw 30 rfl) (ow hw 48 rfl) (by decide) (own_bkN (W := 1) (rmCI1 l Z a0 hw nk kk0 O_nk V_nk nw kw0 O_nw V_nw [] kt kk k0 h0 n0 Z0 Ak) hZ (ow hw 48 rfl) (ow hw 30 rfl) (by decide) (by decide)) e108 (g := (mkF m 31 #[.val (.ref a), .val (.int (2 : Int32)), .val (.int (2 : Int32))] [(.int (2 : Int32)), (.ref kt), (.ref a)])) rfl (by rw [hml]; rfl) (argsL := [(.ref kt), (.int (2 : Int32))]) (rest := [(.ref a)]) rfl (lenOf own_pd3 rfl) rfl (by show 2 * 0 + _ ≤ _; exact Nat.le_of_eq rfl) (hb hby own_d7_31) (by decide) (by decide)
    obtain ⟨Nq109, Kp109, ⟨b_110, kb_111, rfl, z112, f113⟩⟩ := q109
    have N109 := Fr.app N105 Nq109
    refine go _ _ (st109) ?_
    show G (T109.setTop (mkF m 34 #[.val (.ref a), .val (.int (2 : Int32)), .val (.int (2 : Int32))] [(.ref b_110), (.ref a)]))
    have K115 : Keep h0 T109.heap [] := (Keep.refl h0 []).trans Kp109 all0
    have F116 : Fld Z T109.heap a "com/example/hatoyama/hatoyama/IndexSet" "keys" "[I" (.ref kt) := (Fk.keep K115 nin0)
    have F117 : Exa Z T109.heap a "com/example/hatoyama/hatoyama/IndexSet" := (Ea.keep K115)
    obtain ⟨T114, h114, X114, e114, W114, st114⟩ := putF X109 hx hZ hown (host := "") (Or.inl (ow hw 11 rfl)) Via.refl rfl F116 F117 (Or.inl (ow hw 12 rfl)) (ow hw 1 rfl) (ty := (.array .int)) (by decide) rfl rfl (g := (mkF m 34 #[.val (.ref a), .val (.int (2 : Int32)), .val (.int (2 : Int32))] [(.ref b_110), (.ref a)])) rfl rfl (hb hby own_d7_34)
    have F118 : Fld Z T109.heap a "com/example/hatoyama/hatoyama/IndexSet" "words" "[J" (.ref wt) := (Fw.keep K115 nin0)
    have F119 : Fld Z T109.heap a "com/example/hatoyama/hatoyama/IndexSet" "used" "I" (.int (1 : Int32)) := (Fu.keep K115 nin0)
    have N114 := Fr.snoc X114 N109 gz_a
    refine go _ _ (st114) ?_
    show G (T114.setTop (mkF m 37 #[.val (.ref a), .val (.int (2 : Int32)), .val (.int (2 : Int32))] []))
    refine go _ _ (fun _ k => XS.aloadN X114.here hx rfl (hb hby own_d7_37) rfl rfl (XS.aloadN X114.here hx rfl (hb hby own_d7_38) rfl rfl k)) ?_
    show G (T114.setTop (mkF m 39 #[.val (.ref a), .val (.int (2 : Int32)), .val (.int (2 : Int32))] [(.ref a), (.ref a)]))
    obtain ⟨T120, X120, e120, st120⟩ := getF X114 hx hZ hown (host := "") (Or.inl (ow hw 15 rfl)) Via.refl e114 (F118.other W114 (Or.inr (RoadKit.slot_ne (t := (.array .long)) (t' := (.array .int)) (Or.inl (ow hw 16 rfl)) (Or.inl (ow hw 12 rfl)) (by decide) (by decide) (by decide)))) (g := (mkF m 39 #[.val (.ref a), .val (.int (2 : Int32)), .val (.int (2 : Int32))] [(.ref a), (.ref a)])) rfl rfl (hb hby own_d7_39)
    refine go _ _ (st120) ?_
    show G (T120.setTop (mkF m 42 #[.val (.ref a), .val (.int (2 : Int32)), .val (.int (2 : Int32))] [(.ref wt), (.ref a)]))
    refine go _ _ (fun _ k => XS.iloadN X120.here hx rfl (hb hby own_d7_42) rfl k) ?_
    show G (T120.setTop (mkF m 43 #[.val (.ref a), .val (.int (2 : Int32)), .val (.int (2 : Int32))] [(.int (2 : Int32)), (.ref wt), (.ref a)]))
    have K122 : Keep h0 T109.heap [a] := (Keep.refl h0 [a]).trans Kp109 all0
    have K123 : Keep h0 h114 [a] := K122.wr W114 (Or.inl (List.mem_of_getElem? (i := 0) rfl))
    have F124 : Arv Z h114 wt kw .long (1 : Int32) [(.long w0)] (.long (0 : Int64)) := (Aw.keep K123 (ninS (Ne.symm (Exa.neArv Ea Aw (ow hw 1 rfl))) nin0))
    have Z125 : h0.size ≤ T109.heap.size := Kp109.1
    have Z126 : h0.size ≤ h114.size := Nat.le_trans Z125 (Keep.of_wr W114).1
    obtain ⟨rv121, T121, L121, X121, q121, st121⟩ := own_st X120 hx hZ (y := (⟨"java/util/Arrays", "copyOf", "([JI)[J"⟩ : MethodName)) hown (ow hw 57 rfl) (ow hw 58 rfl) (ow hw 30 rfl) (ow hw 59 rfl) (by decide) (own_bkN (W := 1) (rmCJ1 l Z a0 hw nk kk0 O_nk V_nk nw kw0 O_nw V_nw [] wt kw w0 h114 n0 (Nat.le_trans Z0 Z126) F124) hZ (ow hw 59 rfl) (ow hw 30 rfl) (by decide) (by decide)) e120 (g := (mkF m 43 #[.val (.ref a), .val (.int (2 : Int32)), .val (.int (2 : Int32))] [(.int (2 : Int32)), (.ref wt), (.ref a)])) rfl (by rw [hml]; rfl) (argsL := [(.ref wt), (.int (2 : Int32))]) (rest := [(.ref a)]) rfl (lenOf own_pd4 rfl) rfl (by show 2 * 0 + _ ≤ _; exact Nat.le_of_eq rfl) (hb hby own_d7_43) (by decide) (by decide)
    obtain ⟨Nq121, Kp121, ⟨b_127, kb_128, rfl, z129, f130⟩⟩ := q121
    have N121 := Fr.app N114 Nq121
    refine go _ _ (st121) ?_
    show G (T121.setTop (mkF m 46 #[.val (.ref a), .val (.int (2 : Int32)), .val (.int (2 : Int32))] [(.ref b_127), (.ref a)]))
    have K132 : Keep h114 T121.heap [] := (Keep.refl h114 []).trans Kp121 all0
    have F133 : Fld Z T121.heap a "com/example/hatoyama/hatoyama/IndexSet" "words" "[J" (.ref wt) := ((F118.other W114 (Or.inr (RoadKit.slot_ne (t := (.array .long)) (t' := (.array .int)) (Or.inl (ow hw 16 rfl)) (Or.inl (ow hw 12 rfl)) (by decide) (by decide) (by decide)))).keep K132 nin0)
    have F134 : Exa Z T121.heap a "com/example/hatoyama/hatoyama/IndexSet" := ((F117.wr W114).keep K132)
    obtain ⟨T131, h131, X131, e131, W131, st131⟩ := putF X121 hx hZ hown (host := "") (Or.inl (ow hw 15 rfl)) Via.refl rfl F133 F134 (Or.inl (ow hw 16 rfl)) (ow hw 1 rfl) (ty := (.array .long)) (by decide) rfl rfl (g := (mkF m 46 #[.val (.ref a), .val (.int (2 : Int32)), .val (.int (2 : Int32))] [(.ref b_127), (.ref a)])) rfl rfl (hb hby own_d7_46)
    have F135 : Fld Z T121.heap a "com/example/hatoyama/hatoyama/IndexSet" "keys" "[I" (.ref b_110) := ((F116.same W114).keep K132 nin0)
    have F136 : Fld Z T121.heap a "com/example/hatoyama/hatoyama/IndexSet" "used" "I" (.int (1 : Int32)) := ((F119.other W114 (Or.inr (RoadKit.slot_ne (t := .int) (t' := (.array .int)) (Or.inl (ow hw 27 rfl)) (Or.inl (ow hw 12 rfl)) (by decide) (by decide) (by decide)))).keep K132 nin0)
    have N131 := Fr.snoc X131 N121 gz_a
    refine go _ _ (st131) ?_
    show G (T131.setTop (mkF m 49 #[.val (.ref a), .val (.int (2 : Int32)), .val (.int (2 : Int32))] []))
    have K137 : Keep h0 T121.heap [a] := K123.trans Kp121 all0
    have K138 : Keep h0 h131 [a] := K137.wr W131 (Or.inl (List.mem_of_getElem? (i := 0) rfl))
    have K139 : Keep T109.heap h114 [a] := (Keep.refl T109.heap [a]).wr W114 (Or.inl (List.mem_of_getElem? (i := 0) rfl))
    have K140 : Keep T109.heap T121.heap [a] := K139.trans Kp121 all0
    have K141 : Keep T109.heap h131 [a] := K140.wr W131 (Or.inl (List.mem_of_getElem? (i := 0) rfl))
    have F142 : Arv Z h131 b_110 kb_111 .int (2 : Int32) [(.int k0), (.int (0 : Int32))] (.int (0 : Int32)) := (f113.keep K141 (ninS (Ne.symm (Nat.ne_of_lt (Nat.lt_of_lt_of_le Fk.lt z112))) nin0))
    have K143 : Keep T121.heap h131 [a] := (Keep.refl T121.heap [a]).wr W131 (Or.inl (List.mem_of_getElem? (i := 0) rfl))
    have F144 : Arv Z h131 b_127 kb_128 .long (2 : Int32) [(.long w0), (.long (0 : Int64))] (.long (0 : Int64)) := (f130.keep K143 (ninS (Ne.symm (Nat.ne_of_lt (Nat.lt_of_lt_of_le (F116.same W114).lt z129))) nin0))
    refine fin T131 _ _ _ none X131 (fun _ => rfl) (by decide) (by decide) (by rw [e131]; exact ⟨N131, K138, ⟨b_110, b_127, kb_111, kb_128, rfl, z112, (Nat.le_trans Z126 z129), (F134.wr W131), (F136.other W131 (Or.inr (RoadKit.slot_ne (t := .int) (t' := (.array .long)) (Or.inl (ow hw 27 rfl)) (Or.inl (ow hw 16 rfl)) (by decide) (by decide) (by decide)))), (F135.other W131 (Or.inr (RoadKit.slot_ne (t := (.array .int)) (t' := (.array .long)) (Or.inl (ow hw 12 rfl)) (Or.inl (ow hw 16 rfl)) (by decide) (by decide) (by decide)))), (F133.same W131), F142, F144⟩⟩) _ (own_retV X131 hx hret (hb hby own_d7_49))
theorem own_d3_21 : decode prog_3_method_4_code 21 = .ok (.aload_n 0, 1) := by decide +kernel
theorem own_d3_22 : decode prog_3_method_4_code 22 = .ok (.getfield 20, 3) := by decide +kernel
theorem own_d3_25 : decode prog_3_method_4_code 25 = .ok (.iload_n 2, 1) := by decide +kernel
theorem own_d3_26 : decode prog_3_method_4_code 26 = .ok (.dup2, 1) := by decide +kernel
theorem own_d3_27 : decode prog_3_method_4_code 27 = .ok (.laload, 1) := by decide +kernel
theorem own_d3_28 : decode prog_3_method_4_code 28 = .ok (.lconst 1, 1) := by decide +kernel
theorem own_d3_29 : decode prog_3_method_4_code 29 = .ok (.iload_n 1, 1) := by decide +kernel
theorem own_d3_30 : decode prog_3_method_4_code 30 = .ok (.lshl, 1) := by decide +kernel
theorem own_d3_31 : decode prog_3_method_4_code 31 = .ok (.lor, 1) := by decide +kernel
theorem own_d3_32 : decode prog_3_method_4_code 32 = .ok (.lastore, 1) := by decide +kernel
theorem own_d3_33 : decode prog_3_method_4_code 33 = .ok (.goto 88, 3) := by decide +kernel
set_option maxHeartbeats 4000000 in
theorem own_ef_rmAdd1 (m : MethodId) (x0 : Addr) (x1 : Int32) : entryFrame m #[(.ref x0), (.int x1)] 4 = mkF m 0 #[.val (.ref x0), .val (.int x1), .unset, .unset] [] := by rfl
set_option maxRecDepth 65536 in
set_option maxHeartbeats 40000000 in
theorem rmAdd1 (l : Launch) (Z : State) (a0 : Array Value) (hw : ∀ d ∈ tables_1, d.before a0 Z = true) (nk : Addr) (kk0 : ClassId) (O_nk : Sta Z Z.heap "com/example/hatoyama/hatoyama/IndexSet" "NO_KEYS" "[I" (.ref nk)) (V_nk : Arv Z Z.heap nk kk0 .int (0 : Int32) [] (.int (0 : Int32))) (nw : Addr) (kw0 : ClassId) (O_nw : Sta Z Z.heap "com/example/hatoyama/hatoyama/IndexSet" "NO_WORDS" "[J" (.ref nw)) (V_nw : Arv Z Z.heap nw kw0 .long (0 : Int32) [] (.long (0 : Int64))) (ws : List Jvm.Cond) (a : Addr) (x : Int32) (kt : Addr) (wt : Addr) (kk : ClassId) (k0 : Int32) (kw : ClassId) (w0 : Int64) (h0 : Heap) (n0 : Nat) (Z0 : n0 ≤ h0.size) (Xo : Old Z n0 h0) (Ea : Exa Z h0 a "com/example/hatoyama/hatoyama/IndexSet") (Fk : Fld Z h0 a "com/example/hatoyama/hatoyama/IndexSet" "keys" "[I" (.ref kt)) (Fw : Fld Z h0 a "com/example/hatoyama/hatoyama/IndexSet" "words" "[J" (.ref wt)) (Fu : Fld Z h0 a "com/example/hatoyama/hatoyama/IndexSet" "used" "I" (.int (1 : Int32))) (Ak : Arv Z h0 kt kk .int (1 : Int32) [(.int k0)] (.int (0 : Int32))) (Aw : Arv Z h0 wt kw .long (1 : Int32) [(.long w0)] (.long (0 : Int64))) (hs : own_Srt ([(k0, w0)] : List (Int32 × Int64))) (gz_a : n0 ≤ a) (gz_wt : n0 ≤ wt) :
    own_MetN l Z (⟨"com/example/hatoyama/hatoyama/IndexSet", "add", "(I)V"⟩ : MethodName) prog_3_method_4_code 4 none ws ({ frames := 3, cells := 2, slots := 4, locals := 56 } : Room) #[(.ref a), (.int x)] h0 (fun v h L => Fr n0 L ∧ Keep h0 h [a, wt] ∧ ((∃ (v0 : Int64), (v = none) ∧ (own_Srt ([(k0, v0)] : List (Int32 × Int64))) ∧ (own_Add ([(k0, w0)] : List (Int32 × Int64)) ([(k0, v0)] : List (Int32 × Int64)) x) ∧ (Exa Z h a "com/example/hatoyama/hatoyama/IndexSet") ∧ (Fld Z h a "com/example/hatoyama/hatoyama/IndexSet" "used" "I" (.int (1 : Int32))) ∧ (Fld Z h a "com/example/hatoyama/hatoyama/IndexSet" "keys" "[I" (.ref kt)) ∧ (Fld Z h a "com/example/hatoyama/hatoyama/IndexSet" "words" "[J" (.ref wt)) ∧ (Arv Z h kt kk .int (1 : Int32) [(.int k0)] (.int (0 : Int32))) ∧ (Arv Z h wt kw .long (1 : Int32) [(.long v0)] (.long (0 : Int64)))) ∨ (∃ (kt2 : Addr) (wt2 : Addr) (kk2 : ClassId) (kw2 : ClassId) (m0 : Int32) (m1 : Int32) (v0 : Int64) (v1 : Int64), (v = none) ∧ (h0.size ≤ kt2) ∧ (h0.size ≤ wt2) ∧ (own_Srt ([(m0, v0), (m1, v1)] : List (Int32 × Int64))) ∧ (own_Add ([(k0, w0)] : List (Int32 × Int64)) ([(m0, v0), (m1, v1)] : List (Int32 × Int64)) x) ∧ (Exa Z h a "com/example/hatoyama/hatoyama/IndexSet") ∧ (Fld Z h a "com/example/hatoyama/hatoyama/IndexSet" "used" "I" (.int (2 : Int32))) ∧ (Fld Z h a "com/example/hatoyama/hatoyama/IndexSet" "keys" "[I" (.ref kt2)) ∧ (Fld Z h a "com/example/hatoyama/hatoyama/IndexSet" "words" "[J" (.ref wt2)) ∧ (Arv Z h kt2 kk2 .int (2 : Int32) [(.int m0), (.int m1)] (.int (0 : Int32))) ∧ (Arv Z h wt2 kw2 .long (2 : Int32) [(.long v0), (.long v1)] (.long (0 : Int64)))))) := by
  refine own_metN (plainFor_of_name own_pn0) ?_
  intro p e s m below meth c s₁ G hx hby hml hZ hown hnm hret X0 e0 go fin
  have N0 := Fr.nil n0
  refine go _ _ (fun _ k => castTop (own_ef_rmAdd1 m a x) k) ?_
  show G (s₁.setTop (mkF m 0 #[.val (.ref a), .val (.int x), .unset, .unset] []))
  refine go _ _ (fun _ k => XS.aloadN X0.here hx rfl (hb hby own_d3_0) rfl rfl k) ?_
  show G (s₁.setTop (mkF m 1 #[.val (.ref a), .val (.int x), .unset, .unset] [(.ref a)]))
  obtain ⟨T101, X101, e101, st101⟩ := getF X0 hx hZ hown (host := "") (Or.inl (ow hw 11 rfl)) Via.refl e0 Fk (g := (mkF m 1 #[.val (.ref a), .val (.int x), .unset, .unset] [(.ref a)])) rfl rfl (hb hby own_d3_1)
  refine go _ _ (st101) ?_
  show G (T101.setTop (mkF m 4 #[.val (.ref a), .val (.int x), .unset, .unset] [(.ref kt)]))
  refine go _ _ (fun _ k => XS.iconst X101.here hx rfl (hb hby own_d3_4) (XS.aloadN X101.here hx rfl (hb hby own_d3_5) rfl rfl k)) ?_
  show G (T101.setTop (mkF m 6 #[.val (.ref a), .val (.int x), .unset, .unset] [(.ref a), (.int (0 : Int32)), (.ref kt)]))
  obtain ⟨T102, X102, e102, st102⟩ := getF X101 hx hZ hown (host := "") (Or.inl (ow hw 26 rfl)) Via.refl e101 Fu (g := (mkF m 6 #[.val (.ref a), .val (.int x), .unset, .unset] [(.ref a), (.int (0 : Int32)), (.ref kt)])) rfl rfl (hb hby own_d3_6)
  refine go _ _ (st102) ?_
  show G (T102.setTop (mkF m 9 #[.val (.ref a), .val (.int x), .unset, .unset] [(.int (1 : Int32)), (.int (0 : Int32)), (.ref kt)]))
  refine go _ _ (fun _ k => XS.iloadN X102.here hx rfl (hb hby own_d3_9) rfl (XS.bipush X102.here hx rfl (hb hby own_d3_10) (XS.iushr X102.here hx rfl (hb hby own_d3_12) rfl k))) ?_
  show G (T102.setTop (mkF m 13 #[.val (.ref a), .val (.int x), .unset, .unset] [(.int ((x.toUInt32 >>> ((6 : Int32) &&& 31).toUInt32).toInt32)), (.int (1 : Int32)), (.int (0 : Int32)), (.ref kt)]))
  obtain ⟨rv103, T103, L103, X103, q103, st103⟩ := own_st X102 hx hZ (y := (⟨"java/util/Arrays", "binarySearch", "([IIII)I"⟩ : MethodName)) hown (ow hw 28 rfl) (ow hw 29 rfl) (ow hw 30 rfl) (ow hw 31 rfl) (by decide) (own_bkN (W := 0) (rmBS1 l Z a0 hw nk kk0 O_nk V_nk nw kw0 O_nw V_nw [] kt ((x.toUInt32 >>> ((6 : Int32) &&& 31).toUInt32).toInt32) kk k0 h0 n0 Z0 Ak) hZ (ow hw 31 rfl) (ow hw 30 rfl) (by decide) (by decide)) e102 (g := (mkF m 13 #[.val (.ref a), .val (.int x), .unset, .unset] [(.int ((x.toUInt32 >>> ((6 : Int32) &&& 31).toUInt32).toInt32)), (.int (1 : Int32)), (.int (0 : Int32)), (.ref kt)])) rfl (by rw [hml]; rfl) (argsL := [(.ref kt), (.int (0 : Int32)), (.int (1 : Int32)), (.int ((x.toUInt32 >>> ((6 : Int32) &&& 31).toUInt32).toInt32))]) (rest := []) rfl (lenOf own_pd2 rfl) rfl (by show 2 * 0 + _ ≤ _; exact Nat.le_of_eq rfl) (hb hby own_d3_13) (by decide) (by decide)
  obtain ⟨Nq103, e103, q103⟩ := q103
  have N103 := Fr.app N0 Nq103
  rcases q103 with ⟨rfl, p104⟩ | ⟨rfl, p105⟩ | ⟨rfl, p106⟩
  · refine go _ _ (st103) ?_
    show G (T103.setTop (mkF m 16 #[.val (.ref a), .val (.int x), .unset, .unset] [(.int (-2 : Int32))]))
    refine go _ _ (fun _ k => XS.istoreN X103.here hx rfl (hb hby own_d3_16) rfl (l' := #[.val (.ref a), .val (.int x), .val (.int (-2 : Int32)), .unset]) rfl (XS.iloadN X103.here hx rfl (hb hby own_d3_17) rfl k)) ?_
    show G (T103.setTop (mkF m 18 #[.val (.ref a), .val (.int x), .val (.int (-2 : Int32)), .unset] [(.int (-2 : Int32))]))
    refine go _ _ (fun _ k => XS.ifYes X103.here hx rfl (pc0 := 18) (pc' := 36) rfl (hb hby own_d3_18) rfl (by decide) (by decide) (by decide) k) ?_
    show G (T103.setTop (mkF m 36 #[.val (.ref a), .val (.int x), .val (.int (-2 : Int32)), .unset] []))
    refine go _ _ (fun _ k => XS.iconst X103.here hx rfl (hb hby own_d3_36) (XS.iloadN X103.here hx rfl (hb hby own_d3_37) rfl (XS.isub X103.here hx rfl (hb hby own_d3_38) rfl (XS.istoreN X103.here hx rfl (hb hby own_d3_39) rfl (l' := #[.val (.ref a), .val (.int x), .val (.int (-2 : Int32)), .val (.int (1 : Int32))]) rfl (XS.aloadN X103.here hx rfl (hb hby own_d3_40) rfl rfl (XS.aloadN X103.here hx rfl (hb hby own_d3_41) rfl rfl k)))))) ?_
    show G (T103.setTop (mkF m 42 #[.val (.ref a), .val (.int x), .val (.int (-2 : Int32)), .val (.int (1 : Int32))] [(.ref a), (.ref a)]))
    obtain ⟨T107, X107, e107, st107⟩ := getF X103 hx hZ hown (host := "") (Or.inl (ow hw 26 rfl)) Via.refl e103 Fu (g := (mkF m 42 #[.val (.ref a), .val (.int x), .val (.int (-2 : Int32)), .val (.int (1 : Int32))] [(.ref a), (.ref a)])) rfl rfl (hb hby own_d3_42)
    refine go _ _ (st107) ?_
    show G (T107.setTop (mkF m 45 #[.val (.ref a), .val (.int x), .val (.int (-2 : Int32)), .val (.int (1 : Int32))] [(.int (1 : Int32)), (.ref a)]))
    refine go _ _ (fun _ k => XS.iconst X107.here hx rfl (hb hby own_d3_45) (XS.iadd X107.here hx rfl (hb hby own_d3_46) rfl k)) ?_
    show G (T107.setTop (mkF m 47 #[.val (.ref a), .val (.int x), .val (.int (-2 : Int32)), .val (.int (1 : Int32))] [(.int (2 : Int32)), (.ref a)]))
    obtain ⟨rv108, T108, L108, X108, q108, st108⟩ := own_pr X107 hx hZ (y := (⟨"com/example/hatoyama/hatoyama/IndexSet", "room", "(I)V"⟩ : MethodName)) hown (ow hw 38 rfl) (ow hw 39 rfl) (own_selfp (y := (⟨"com/example/hatoyama/hatoyama/IndexSet", "room", "(I)V"⟩ : MethodName)) (ow hw 40 rfl) (ow hw 39 rfl) (ow hw 1 rfl) (by decide)) (ow hw 40 rfl) (ow hw 41 rfl) (by decide) (own_bkN (W := 0) (rmRoom1 l Z a0 hw nk kk0 O_nk V_nk nw kw0 O_nw V_nw [] a kt wt kk k0 kw w0 h0 n0 Z0 Xo Ea Fk Fw Fu Ak Aw gz_a) hZ (ow hw 41 rfl) (ow hw 2 rfl) (by decide) (by decide)) e107 Ea (g := (mkF m 47 #[.val (.ref a), .val (.int x), .val (.int (-2 : Int32)), .val (.int (1 : Int32))] [(.int (2 : Int32)), (.ref a)])) rfl (by rw [hml]; rfl) (argsL := [(.int (2 : Int32))]) (rest := []) rfl (lenOf own_pd5 rfl) rfl (by show 2 * 0 + _ ≤ _; exact Nat.le_of_eq rfl) (hb hby own_d3_47) (by decide) (by decide)
    obtain ⟨Nq108, Kp108, ⟨kt2_109, wt2_110, kk2_111, kw2_112, rfl, z113, z114, f115, f116, f117, f118, f119, f120⟩⟩ := q108
    have N108 := Fr.app N103 Nq108
    refine go _ _ (st108) ?_
    show G (T108.setTop (mkF m 50 #[.val (.ref a), .val (.int x), .val (.int (-2 : Int32)), .val (.int (1 : Int32))] []))
    refine go _ _ (fun _ k => XS.aloadN X108.here hx rfl (hb hby own_d3_50) rfl rfl k) ?_
    show G (T108.setTop (mkF m 51 #[.val (.ref a), .val (.int x), .val (.int (-2 : Int32)), .val (.int (1 : Int32))] [(.ref a)]))
    obtain ⟨T121, X121, e121, st121⟩ := getF X108 hx hZ hown (host := "") (Or.inl (ow hw 11 rfl)) Via.refl rfl f117 (g := (mkF m 51 #[.val (.ref a), .val (.int x), .val (.int (-2 : Int32)), .val (.int (1 : Int32))] [(.ref a)])) rfl rfl (hb hby own_d3_51)
    refine go _ _ (st121) ?_
    show G (T121.setTop (mkF m 54 #[.val (.ref a), .val (.int x), .val (.int (-2 : Int32)), .val (.int (1 : Int32))] [(.ref kt2_109)]))
    refine go _ _ (fun _ k => XS.iloadN X121.here hx rfl (hb hby own_d3_54) rfl (XS.aloadN X121.here hx rfl (hb hby own_d3_55) rfl rfl k)) ?_
    show G (T121.setTop (mkF m 56 #[.val (.ref a), .val (.int x), .val (.int (-2 : Int32)), .val (.int (1 : Int32))] [(.ref a), (.int (1 : Int32)), (.ref kt2_109)]))
    obtain ⟨T122, X122, e122, st122⟩ := getF X121 hx hZ hown (host := "") (Or.inl (ow hw 11 rfl)) Via.refl e121 f117 (g := (mkF m 56 #[.val (.ref a), .val (.int x), .val (.int (-2 : Int32)), .val (.int (1 : Int32))] [(.ref a), (.int (1 : Int32)), (.ref kt2_109)])) rfl rfl (hb hby own_d3_56)
    refine go _ _ (st122) ?_
    show G (T122.setTop (mkF m 59 #[.val (.ref a), .val (.int x), .val (.int (-2 : Int32)), .val (.int (1 : Int32))] [(.ref kt2_109), (.int (1 : Int32)), (.ref kt2_109)]))
    refine go _ _ (fun _ k => XS.iloadN X122.here hx rfl (hb hby own_d3_59) rfl (XS.iconst X122.here hx rfl (hb hby own_d3_60) (XS.iadd X122.here hx rfl (hb hby own_d3_61) rfl (XS.aloadN X122.here hx rfl (hb hby own_d3_62) rfl rfl k)))) ?_
    show G (T122.setTop (mkF m 63 #[.val (.ref a), .val (.int x), .val (.int (-2 : Int32)), .val (.int (1 : Int32))] [(.ref a), (.int (2 : Int32)), (.ref kt2_109), (.int (1 : Int32)), (.ref kt2_109)]))
    obtain ⟨T123, X123, e123, st123⟩ := getF X122 hx hZ hown (host := "") (Or.inl (ow hw 26 rfl)) Via.refl e122 f116 (g := (mkF m 63 #[.val (.ref a), .val (.int x), .val (.int (-2 : Int32)), .val (.int (1 : Int32))] [(.ref a), (.int (2 : Int32)), (.ref kt2_109), (.int (1 : Int32)), (.ref kt2_109)])) rfl rfl (hb hby own_d3_63)
    refine go _ _ (st123) ?_
    show G (T123.setTop (mkF m 66 #[.val (.ref a), .val (.int x), .val (.int (-2 : Int32)), .val (.int (1 : Int32))] [(.int (1 : Int32)), (.int (2 : Int32)), (.ref kt2_109), (.int (1 : Int32)), (.ref kt2_109)]))
    refine go _ _ (fun _ k => XS.iloadN X123.here hx rfl (hb hby own_d3_66) rfl (XS.isub X123.here hx rfl (hb hby own_d3_67) rfl k)) ?_
    show G (T123.setTop (mkF m 68 #[.val (.ref a), .val (.int x), .val (.int (-2 : Int32)), .val (.int (1 : Int32))] [(.int (0 : Int32)), (.int (2 : Int32)), (.ref kt2_109), (.int (1 : Int32)), (.ref kt2_109)]))
    obtain ⟨T124, h124, L124, X124, e124, N124, Kp124, V124, st124⟩ := cpA X123 hx hZ hown (ow hw 61 rfl) (ow hw 56 rfl) (ow hw 54 rfl) (ow hw 55 rfl) e123 f119 f119 (us := []) (Or.inl ⟨rfl, rfl⟩) (by decide) (by decide) (by decide) (by decide) (by decide) rfl (Nat.le_of_ble_eq_true rfl) N108 (Nat.le_trans Z0 z113) (g := (mkF m 68 #[.val (.ref a), .val (.int x), .val (.int (-2 : Int32)), .val (.int (1 : Int32))] [(.int (0 : Int32)), (.int (2 : Int32)), (.ref kt2_109), (.int (1 : Int32)), (.ref kt2_109)])) rfl (by rw [hml]; rfl) (rest := []) rfl (hb hby own_d3_68) (by decide) (W := 0) (by show 2 * 0 + _ ≤ _; exact Nat.le_of_eq rfl) (by decide)
    have Vq124 : Arv Z h124 kt2_109 kk2_111 .int (2 : Int32) [(.int k0), (.int (0 : Int32))] (.int (0 : Int32)) := V124
    refine go _ _ (st124) ?_
    show G (T124.setTop (mkF m 71 #[.val (.ref a), .val (.int x), .val (.int (-2 : Int32)), .val (.int (1 : Int32))] []))
    refine go _ _ (fun _ k => XS.aloadN X124.here hx rfl (hb hby own_d3_71) rfl rfl k) ?_
    show G (T124.setTop (mkF m 72 #[.val (.ref a), .val (.int x), .val (.int (-2 : Int32)), .val (.int (1 : Int32))] [(.ref a)]))
    have K126 : Keep T108.heap h124 [kt2_109] := (Keep.refl T108.heap [kt2_109]).trans Kp124 (allS (Or.inl (List.mem_of_getElem? (i := 0) rfl)) all0)
    have F127 : Fld Z h124 a "com/example/hatoyama/hatoyama/IndexSet" "words" "[J" (.ref wt2_110) := (f118.keep K126 (ninS (Nat.ne_of_lt (Nat.lt_of_lt_of_le Ea.lt z113)) nin0))
    obtain ⟨T125, X125, e125, st125⟩ := getF X124 hx hZ hown (host := "") (Or.inl (ow hw 15 rfl)) Via.refl e124 F127 (g := (mkF m 72 #[.val (.ref a), .val (.int x), .val (.int (-2 : Int32)), .val (.int (1 : Int32))] [(.ref a)])) rfl rfl (hb hby own_d3_72)
    refine go _ _ (st125) ?_
    show G (T125.setTop (mkF m 75 #[.val (.ref a), .val (.int x), .val (.int (-2 : Int32)), .val (.int (1 : Int32))] [(.ref wt2_110)]))
    refine go _ _ (fun _ k => XS.iloadN X125.here hx rfl (hb hby own_d3_75) rfl (XS.aloadN X125.here hx rfl (hb hby own_d3_76) rfl rfl k)) ?_
    show G (T125.setTop (mkF m 77 #[.val (.ref a), .val (.int x), .val (.int (-2 : Int32)), .val (.int (1 : Int32))] [(.ref a), (.int (1 : Int32)), (.ref wt2_110)]))
    obtain ⟨T128, X128, e128, st128⟩ := getF X125 hx hZ hown (host := "") (Or.inl (ow hw 15 rfl)) Via.refl e125 F127 (g := (mkF m 77 #[.val (.ref a), .val (.int x), .val (.int (-2 : Int32)), .val (.int (1 : Int32))] [(.ref a), (.int (1 : Int32)), (.ref wt2_110)])) rfl rfl (hb hby own_d3_77)
    refine go _ _ (st128) ?_
    show G (T128.setTop (mkF m 80 #[.val (.ref a), .val (.int x), .val (.int (-2 : Int32)), .val (.int (1 : Int32))] [(.ref wt2_110), (.int (1 : Int32)), (.ref wt2_110)]))
    refine go _ _ (fun _ k => XS.iloadN X128.here hx rfl (hb hby own_d3_80) rfl (XS.iconst X128.here hx rfl (hb hby own_d3_81) (XS.iadd X128.here hx rfl (hb hby own_d3_82) rfl (XS.aloadN X128.here hx rfl (hb hby own_d3_83) rfl rfl k)))) ?_
    show G (T128.setTop (mkF m 84 #[.val (.ref a), .val (.int x), .val (.int (-2 : Int32)), .val (.int (1 : Int32))] [(.ref a), (.int (2 : Int32)), (.ref wt2_110), (.int (1 : Int32)), (.ref wt2_110)]))
    have F130 : Fld Z h124 a "com/example/hatoyama/hatoyama/IndexSet" "used" "I" (.int (1 : Int32)) := (f116.keep K126 (ninS (Nat.ne_of_lt (Nat.lt_of_lt_of_le Ea.lt z113)) nin0))
    obtain ⟨T129, X129, e129, st129⟩ := getF X128 hx hZ hown (host := "") (Or.inl (ow hw 26 rfl)) Via.refl e128 F130 (g := (mkF m 84 #[.val (.ref a), .val (.int x), .val (.int (-2 : Int32)), .val (.int (1 : Int32))] [(.ref a), (.int (2 : Int32)), (.ref wt2_110), (.int (1 : Int32)), (.ref wt2_110)])) rfl rfl (hb hby own_d3_84)
    refine go _ _ (st129) ?_
    show G (T129.setTop (mkF m 87 #[.val (.ref a), .val (.int x), .val (.int (-2 : Int32)), .val (.int (1 : Int32))] [(.int (1 : Int32)), (.int (2 : Int32)), (.ref wt2_110), (.int (1 : Int32)), (.ref wt2_110)]))
    refine go _ _ (fun _ k => XS.iloadN X129.here hx rfl (hb hby own_d3_87) rfl (XS.isub X129.here hx rfl (hb hby own_d3_88) rfl k)) ?_
    show G (T129.setTop (mkF m 89 #[.val (.ref a), .val (.int x), .val (.int (-2 : Int32)), .val (.int (1 : Int32))] [(.int (0 : Int32)), (.int (2 : Int32)), (.ref wt2_110), (.int (1 : Int32)), (.ref wt2_110)]))
    have ne132 : wt2_110 ≠ kt2_109 := own_neA f120 f119 (by decide)
    have F133 : Arv Z h124 wt2_110 kw2_112 .long (2 : Int32) [(.long w0), (.long (0 : Int64))] (.long (0 : Int64)) := (f120.keep K126 (ninS ne132 nin0))
    obtain ⟨T131, h131, L131, X131, e131, N131, Kp131, V131, st131⟩ := cpA X129 hx hZ hown (ow hw 61 rfl) (ow hw 56 rfl) (ow hw 54 rfl) (ow hw 55 rfl) e129 F133 F133 (us := []) (Or.inl ⟨rfl, rfl⟩) (by decide) (by decide) (by decide) (by decide) (by decide) rfl (Nat.le_of_ble_eq_true rfl) N124 (Nat.le_trans Z0 z114) (g := (mkF m 89 #[.val (.ref a), .val (.int x), .val (.int (-2 : Int32)), .val (.int (1 : Int32))] [(.int (0 : Int32)), (.int (2 : Int32)), (.ref wt2_110), (.int (1 : Int32)), (.ref wt2_110)])) rfl (by rw [hml]; rfl) (rest := []) rfl (hb hby own_d3_89) (by decide) (W := 0) (by show 2 * 0 + _ ≤ _; exact Nat.le_of_eq rfl) (by decide)
    have Vq131 : Arv Z h131 wt2_110 kw2_112 .long (2 : Int32) [(.long w0), (.long (0 : Int64))] (.long (0 : Int64)) := V131
    refine go _ _ (st131) ?_
    show G (T131.setTop (mkF m 92 #[.val (.ref a), .val (.int x), .val (.int (-2 : Int32)), .val (.int (1 : Int32))] []))
    refine go _ _ (fun _ k => XS.aloadN X131.here hx rfl (hb hby own_d3_92) rfl rfl k) ?_
    show G (T131.setTop (mkF m 93 #[.val (.ref a), .val (.int x), .val (.int (-2 : Int32)), .val (.int (1 : Int32))] [(.ref a)]))
    have K135 : Keep T108.heap h124 [kt2_109, wt2_110] := (Keep.refl T108.heap [kt2_109, wt2_110]).trans Kp124 (allS (Or.inl (List.mem_of_getElem? (i := 0) rfl)) all0)
    have K136 : Keep T108.heap h131 [kt2_109, wt2_110] := K135.trans Kp131 (allS (Or.inl (List.mem_of_getElem? (i := 1) rfl)) all0)
    have F137 : Fld Z h131 a "com/example/hatoyama/hatoyama/IndexSet" "keys" "[I" (.ref kt2_109) := (f117.keep K136 (ninS (Nat.ne_of_lt (Nat.lt_of_lt_of_le Ea.lt z113)) (ninS (Nat.ne_of_lt (Nat.lt_of_lt_of_le Ea.lt z114)) nin0)))
    obtain ⟨T134, X134, e134, st134⟩ := getF X131 hx hZ hown (host := "") (Or.inl (ow hw 11 rfl)) Via.refl e131 F137 (g := (mkF m 93 #[.val (.ref a), .val (.int x), .val (.int (-2 : Int32)), .val (.int (1 : Int32))] [(.ref a)])) rfl rfl (hb hby own_d3_93)
    refine go _ _ (st134) ?_
    show G (T134.setTop (mkF m 96 #[.val (.ref a), .val (.int x), .val (.int (-2 : Int32)), .val (.int (1 : Int32))] [(.ref kt2_109)]))
    refine go _ _ (fun _ k => XS.iloadN X134.here hx rfl (hb hby own_d3_96) rfl (XS.iloadN X134.here hx rfl (hb hby own_d3_97) rfl (XS.bipush X134.here hx rfl (hb hby own_d3_98) (XS.iushr X134.here hx rfl (hb hby own_d3_100) rfl k)))) ?_
    show G (T134.setTop (mkF m 101 #[.val (.ref a), .val (.int x), .val (.int (-2 : Int32)), .val (.int (1 : Int32))] [(.int ((x.toUInt32 >>> ((6 : Int32) &&& 31).toUInt32).toInt32)), (.int (1 : Int32)), (.ref kt2_109)]))
    have K139 : Keep h124 h131 [wt2_110] := (Keep.refl h124 [wt2_110]).trans Kp131 (allS (Or.inl (List.mem_of_getElem? (i := 0) rfl)) all0)
    have F140 : Arv Z h131 kt2_109 kk2_111 .int (2 : Int32) [(.int k0), (.int (0 : Int32))] (.int (0 : Int32)) := (Vq124.keep K139 (ninS (Ne.symm ne132) nin0))
    obtain ⟨cl138, Ar138, q138, S138, M138, H138, U138⟩ := id F140
    obtain ⟨T138, h138, X138, e138, W138, st138⟩ := stI X134 hx hZ e134 Ar138 (j := (1 : Int32)) (inb_of S138 ⟨by decide, by decide⟩) (g := (mkF m 101 #[.val (.ref a), .val (.int x), .val (.int (-2 : Int32)), .val (.int (1 : Int32))] [(.int ((x.toUInt32 >>> ((6 : Int32) &&& 31).toUInt32).toInt32)), (.int (1 : Int32)), (.ref kt2_109)])) rfl rfl (hb hby own_d3_101)
    have V138 : Arv Z h138 kt2_109 kk2_111 .int (2 : Int32) [(.int k0), (.int ((x.toUInt32 >>> ((6 : Int32) &&& 31).toUInt32).toInt32))] (.int (0 : Int32)) := Arv.set Ar138 q138 S138 M138 H138 U138 rfl W138 1 rfl (Nat.le_of_ble_eq_true rfl)
    have N138 := Fr.snoc X138 N131 (Nat.le_trans Z0 z113)
    refine go _ _ (st138) ?_
    show G (T138.setTop (mkF m 102 #[.val (.ref a), .val (.int x), .val (.int (-2 : Int32)), .val (.int (1 : Int32))] []))
    refine go _ _ (fun _ k => XS.aloadN X138.here hx rfl (hb hby own_d3_102) rfl rfl k) ?_
    show G (T138.setTop (mkF m 103 #[.val (.ref a), .val (.int x), .val (.int (-2 : Int32)), .val (.int (1 : Int32))] [(.ref a)]))
    have K142 : Keep h124 h131 [wt2_110, kt2_109] := (Keep.refl h124 [wt2_110, kt2_109]).trans Kp131 (allS (Or.inl (List.mem_of_getElem? (i := 0) rfl)) all0)
    have K143 : Keep h124 h138 [wt2_110, kt2_109] := K142.wr W138 (Or.inl (List.mem_of_getElem? (i := 1) rfl))
    have F144 : Fld Z h138 a "com/example/hatoyama/hatoyama/IndexSet" "words" "[J" (.ref wt2_110) := (F127.keep K143 (ninS (Nat.ne_of_lt (Nat.lt_of_lt_of_le Ea.lt z114)) (ninS (Nat.ne_of_lt (Nat.lt_of_lt_of_le Ea.lt z113)) nin0)))
    obtain ⟨T141, X141, e141, st141⟩ := getF X138 hx hZ hown (host := "") (Or.inl (ow hw 15 rfl)) Via.refl e138 F144 (g := (mkF m 103 #[.val (.ref a), .val (.int x), .val (.int (-2 : Int32)), .val (.int (1 : Int32))] [(.ref a)])) rfl rfl (hb hby own_d3_103)
    refine go _ _ (st141) ?_
    show G (T141.setTop (mkF m 106 #[.val (.ref a), .val (.int x), .val (.int (-2 : Int32)), .val (.int (1 : Int32))] [(.ref wt2_110)]))
    refine go _ _ (fun _ k => XS.iloadN X141.here hx rfl (hb hby own_d3_106) rfl (XS.lconst X141.here hx rfl (hb hby own_d3_107) (XS.iloadN X141.here hx rfl (hb hby own_d3_108) rfl (XS.lshl X141.here hx rfl (hb hby own_d3_109) rfl k)))) ?_
    show G (T141.setTop (mkF m 110 #[.val (.ref a), .val (.int x), .val (.int (-2 : Int32)), .val (.int (1 : Int32))] [(.long ((1 : Int64) <<< (x &&& 0x3f).toInt64)), (.int (1 : Int32)), (.ref wt2_110)]))
    have K146 : Keep h131 h138 [kt2_109] := (Keep.refl h131 [kt2_109]).wr W138 (Or.inl (List.mem_of_getElem? (i := 0) rfl))
    have F147 : Arv Z h138 wt2_110 kw2_112 .long (2 : Int32) [(.long w0), (.long (0 : Int64))] (.long (0 : Int64)) := (Vq131.keep K146 (ninS ne132 nin0))
    obtain ⟨cl145, Ar145, q145, S145, M145, H145, U145⟩ := id F147
    obtain ⟨T145, h145, X145, e145, W145, st145⟩ := stJ X141 hx hZ e141 Ar145 (j := (1 : Int32)) (inb_of S145 ⟨by decide, by decide⟩) (g := (mkF m 110 #[.val (.ref a), .val (.int x), .val (.int (-2 : Int32)), .val (.int (1 : Int32))] [(.long ((1 : Int64) <<< (x &&& 0x3f).toInt64)), (.int (1 : Int32)), (.ref wt2_110)])) rfl rfl (hb hby own_d3_110)
    have V145 : Arv Z h145 wt2_110 kw2_112 .long (2 : Int32) [(.long w0), (.long ((1 : Int64) <<< (x &&& 0x3f).toInt64))] (.long (0 : Int64)) := Arv.set Ar145 q145 S145 M145 H145 U145 rfl W145 1 rfl (Nat.le_of_ble_eq_true rfl)
    have N145 := Fr.snoc X145 N138 (Nat.le_trans Z0 z114)
    refine go _ _ (st145) ?_
    show G (T145.setTop (mkF m 111 #[.val (.ref a), .val (.int x), .val (.int (-2 : Int32)), .val (.int (1 : Int32))] []))
    refine go _ _ (fun _ k => XS.aloadN X145.here hx rfl (hb hby own_d3_111) rfl rfl (XS.dup X145.here hx rfl (hb hby own_d3_112) rfl rfl k)) ?_
    show G (T145.setTop (mkF m 113 #[.val (.ref a), .val (.int x), .val (.int (-2 : Int32)), .val (.int (1 : Int32))] [(.ref a), (.ref a)]))
    have K149 : Keep h124 h145 [wt2_110, kt2_109] := K143.wr W145 (Or.inl (List.mem_of_getElem? (i := 0) rfl))
    have F150 : Fld Z h145 a "com/example/hatoyama/hatoyama/IndexSet" "used" "I" (.int (1 : Int32)) := (F130.keep K149 (ninS (Nat.ne_of_lt (Nat.lt_of_lt_of_le Ea.lt z114)) (ninS (Nat.ne_of_lt (Nat.lt_of_lt_of_le Ea.lt z113)) nin0)))
    obtain ⟨T148, X148, e148, st148⟩ := getF X145 hx hZ hown (host := "") (Or.inl (ow hw 26 rfl)) Via.refl e145 F150 (g := (mkF m 113 #[.val (.ref a), .val (.int x), .val (.int (-2 : Int32)), .val (.int (1 : Int32))] [(.ref a), (.ref a)])) rfl rfl (hb hby own_d3_113)
    refine go _ _ (st148) ?_
    show G (T148.setTop (mkF m 116 #[.val (.ref a), .val (.int x), .val (.int (-2 : Int32)), .val (.int (1 : Int32))] [(.int (1 : Int32)), (.ref a)]))
    refine go _ _ (fun _ k => XS.iconst X148.here hx rfl (hb hby own_d3_116) (XS.iadd X148.here hx rfl (hb hby own_d3_117) rfl k)) ?_
    show G (T148.setTop (mkF m 118 #[.val (.ref a), .val (.int x), .val (.int (-2 : Int32)), .val (.int (1 : Int32))] [(.int (2 : Int32)), (.ref a)]))
    have K152 : Keep T108.heap h138 [kt2_109, wt2_110] := K136.wr W138 (Or.inl (List.mem_of_getElem? (i := 0) rfl))
    have K153 : Keep T108.heap h145 [kt2_109, wt2_110] := K152.wr W145 (Or.inl (List.mem_of_getElem? (i := 1) rfl))
    have F154 : Exa Z h145 a "com/example/hatoyama/hatoyama/IndexSet" := (f115.keep K153)
    obtain ⟨T151, h151, X151, e151, W151, st151⟩ := putF X148 hx hZ hown (host := "") (Or.inl (ow hw 26 rfl)) Via.refl e148 F150 F154 (Or.inl (ow hw 27 rfl)) (ow hw 1 rfl) (ty := .int) (by decide) rfl rfl (g := (mkF m 118 #[.val (.ref a), .val (.int x), .val (.int (-2 : Int32)), .val (.int (1 : Int32))] [(.int (2 : Int32)), (.ref a)])) rfl rfl (hb hby own_d3_118)
    have K155 : Keep h131 h138 [kt2_109, wt2_110] := (Keep.refl h131 [kt2_109, wt2_110]).wr W138 (Or.inl (List.mem_of_getElem? (i := 0) rfl))
    have K156 : Keep h131 h145 [kt2_109, wt2_110] := K155.wr W145 (Or.inl (List.mem_of_getElem? (i := 1) rfl))
    have F157 : Fld Z h145 a "com/example/hatoyama/hatoyama/IndexSet" "keys" "[I" (.ref kt2_109) := (F137.keep K156 (ninS (Nat.ne_of_lt (Nat.lt_of_lt_of_le Ea.lt z113)) (ninS (Nat.ne_of_lt (Nat.lt_of_lt_of_le Ea.lt z114)) nin0)))
    have K158 : Keep h138 h145 [wt2_110] := (Keep.refl h138 [wt2_110]).wr W145 (Or.inl (List.mem_of_getElem? (i := 0) rfl))
    have F159 : Fld Z h145 a "com/example/hatoyama/hatoyama/IndexSet" "words" "[J" (.ref wt2_110) := (F144.keep K158 (ninS (Nat.ne_of_lt (Nat.lt_of_lt_of_le Ea.lt z114)) nin0))
    have N151 := Fr.snoc X151 N145 gz_a
    refine go _ _ (st151) ?_
    show G (T151.setTop (mkF m 121 #[.val (.ref a), .val (.int x), .val (.int (-2 : Int32)), .val (.int (1 : Int32))] []))
    have K160 : Keep h0 T108.heap [a, wt] := (Keep.refl h0 [a, wt]).trans Kp108 (allS (Or.inl (List.mem_of_getElem? (i := 0) rfl)) all0)
    have K161 : Keep h0 h124 [a, wt] := K160.trans Kp124 (allS (Or.inr z113) all0)
    have K162 : Keep h0 h131 [a, wt] := K161.trans Kp131 (allS (Or.inr z114) all0)
    have K163 : Keep h0 h138 [a, wt] := K162.wr W138 (Or.inr z113)
    have K164 : Keep h0 h145 [a, wt] := K163.wr W145 (Or.inr z114)
    have K165 : Keep h0 h151 [a, wt] := K164.wr W151 (Or.inl (List.mem_of_getElem? (i := 0) rfl))
    have K166 : Keep h138 h145 [wt2_110, a] := (Keep.refl h138 [wt2_110, a]).wr W145 (Or.inl (List.mem_of_getElem? (i := 0) rfl))
    have K167 : Keep h138 h151 [wt2_110, a] := K166.wr W151 (Or.inl (List.mem_of_getElem? (i := 1) rfl))
    have F168 : Arv Z h151 kt2_109 kk2_111 .int (2 : Int32) [(.int k0), (.int ((x.toUInt32 >>> ((6 : Int32) &&& 31).toUInt32).toInt32))] (.int (0 : Int32)) := (V138.keep K167 (ninS (Ne.symm ne132) (ninS (Ne.symm (Nat.ne_of_lt (Nat.lt_of_lt_of_le Ea.lt z113))) nin0)))
    have K169 : Keep h145 h151 [a] := (Keep.refl h145 [a]).wr W151 (Or.inl (List.mem_of_getElem? (i := 0) rfl))
    have F170 : Arv Z h151 wt2_110 kw2_112 .long (2 : Int32) [(.long w0), (.long ((1 : Int64) <<< (x &&& 0x3f).toInt64))] (.long (0 : Int64)) := (V145.keep K169 (ninS (Ne.symm (Nat.ne_of_lt (Nat.lt_of_lt_of_le Ea.lt z114))) nin0))
    refine fin T151 _ _ _ none X151 (fun _ => rfl) (by decide) (by decide) (by rw [e151]; exact ⟨N151, K165, (Or.inr ⟨kt2_109, wt2_110, kk2_111, kw2_112, k0, ((x.toUInt32 >>> ((6 : Int32) &&& 31).toUInt32).toInt32), w0, ((1 : Int64) <<< (x &&& 0x3f).toInt64), rfl, z113, z114, (own_srt2 p104 (own_srtm hs (i := 0) (p := (k0, w0)) rfl) ⟨x, rfl⟩), (own_add_ins [(k0, w0)] [] x), (F154.wr W151), (F150.same W151), (F157.other W151 (Or.inr (RoadKit.slot_ne (t := (.array .int)) (t' := .int) (Or.inl (ow hw 12 rfl)) (Or.inl (ow hw 27 rfl)) (by decide) (by decide) (by decide)))), (F159.other W151 (Or.inr (RoadKit.slot_ne (t := (.array .long)) (t' := .int) (Or.inl (ow hw 16 rfl)) (Or.inl (ow hw 27 rfl)) (by decide) (by decide) (by decide)))), F168, F170⟩)⟩) _ (own_retV X151 hx hret (hb hby own_d3_121))
  · refine go _ _ (st103) ?_
    show G (T103.setTop (mkF m 16 #[.val (.ref a), .val (.int x), .unset, .unset] [(.int (-1 : Int32))]))
    refine go _ _ (fun _ k => XS.istoreN X103.here hx rfl (hb hby own_d3_16) rfl (l' := #[.val (.ref a), .val (.int x), .val (.int (-1 : Int32)), .unset]) rfl (XS.iloadN X103.here hx rfl (hb hby own_d3_17) rfl k)) ?_
    show G (T103.setTop (mkF m 18 #[.val (.ref a), .val (.int x), .val (.int (-1 : Int32)), .unset] [(.int (-1 : Int32))]))
    refine go _ _ (fun _ k => XS.ifYes X103.here hx rfl (pc0 := 18) (pc' := 36) rfl (hb hby own_d3_18) rfl (by decide) (by decide) (by decide) k) ?_
    show G (T103.setTop (mkF m 36 #[.val (.ref a), .val (.int x), .val (.int (-1 : Int32)), .unset] []))
    refine go _ _ (fun _ k => XS.iconst X103.here hx rfl (hb hby own_d3_36) (XS.iloadN X103.here hx rfl (hb hby own_d3_37) rfl (XS.isub X103.here hx rfl (hb hby own_d3_38) rfl (XS.istoreN X103.here hx rfl (hb hby own_d3_39) rfl (l' := #[.val (.ref a), .val (.int x), .val (.int (-1 : Int32)), .val (.int (0 : Int32))]) rfl (XS.aloadN X103.here hx rfl (hb hby own_d3_40) rfl rfl (XS.aloadN X103.here hx rfl (hb hby own_d3_41) rfl rfl k)))))) ?_
    show G (T103.setTop (mkF m 42 #[.val (.ref a), .val (.int x), .val (.int (-1 : Int32)), .val (.int (0 : Int32))] [(.ref a), (.ref a)]))
    obtain ⟨T171, X171, e171, st171⟩ := getF X103 hx hZ hown (host := "") (Or.inl (ow hw 26 rfl)) Via.refl e103 Fu (g := (mkF m 42 #[.val (.ref a), .val (.int x), .val (.int (-1 : Int32)), .val (.int (0 : Int32))] [(.ref a), (.ref a)])) rfl rfl (hb hby own_d3_42)
    refine go _ _ (st171) ?_
    show G (T171.setTop (mkF m 45 #[.val (.ref a), .val (.int x), .val (.int (-1 : Int32)), .val (.int (0 : Int32))] [(.int (1 : Int32)), (.ref a)]))
    refine go _ _ (fun _ k => XS.iconst X171.here hx rfl (hb hby own_d3_45) (XS.iadd X171.here hx rfl (hb hby own_d3_46) rfl k)) ?_
    show G (T171.setTop (mkF m 47 #[.val (.ref a), .val (.int x), .val (.int (-1 : Int32)), .val (.int (0 : Int32))] [(.int (2 : Int32)), (.ref a)]))
    obtain ⟨rv172, T172, L172, X172, q172, st172⟩ := own_pr X171 hx hZ (y := (⟨"com/example/hatoyama/hatoyama/IndexSet", "room", "(I)V"⟩ : MethodName)) hown (ow hw 38 rfl) (ow hw 39 rfl) (own_selfp (y := (⟨"com/example/hatoyama/hatoyama/IndexSet", "room", "(I)V"⟩ : MethodName)) (ow hw 40 rfl) (ow hw 39 rfl) (ow hw 1 rfl) (by decide)) (ow hw 40 rfl) (ow hw 41 rfl) (by decide) (own_bkN (W := 0) (rmRoom1 l Z a0 hw nk kk0 O_nk V_nk nw kw0 O_nw V_nw [] a kt wt kk k0 kw w0 h0 n0 Z0 Xo Ea Fk Fw Fu Ak Aw gz_a) hZ (ow hw 41 rfl) (ow hw 2 rfl) (by decide) (by decide)) e171 Ea (g := (mkF m 47 #[.val (.ref a), .val (.int x), .val (.int (-1 : Int32)), .val (.int (0 : Int32))] [(.int (2 : Int32)), (.ref a)])) rfl (by rw [hml]; rfl) (argsL := [(.int (2 : Int32))]) (rest := []) rfl (lenOf own_pd5 rfl) rfl (by show 2 * 0 + _ ≤ _; exact Nat.le_of_eq rfl) (hb hby own_d3_47) (by decide) (by decide)
    obtain ⟨Nq172, Kp172, ⟨kt2_173, wt2_174, kk2_175, kw2_176, rfl, z177, z178, f179, f180, f181, f182, f183, f184⟩⟩ := q172
    have N172 := Fr.app N103 Nq172
    refine go _ _ (st172) ?_
    show G (T172.setTop (mkF m 50 #[.val (.ref a), .val (.int x), .val (.int (-1 : Int32)), .val (.int (0 : Int32))] []))
    refine go _ _ (fun _ k => XS.aloadN X172.here hx rfl (hb hby own_d3_50) rfl rfl k) ?_
    show G (T172.setTop (mkF m 51 #[.val (.ref a), .val (.int x), .val (.int (-1 : Int32)), .val (.int (0 : Int32))] [(.ref a)]))
    obtain ⟨T185, X185, e185, st185⟩ := getF X172 hx hZ hown (host := "") (Or.inl (ow hw 11 rfl)) Via.refl rfl f181 (g := (mkF m 51 #[.val (.ref a), .val (.int x), .val (.int (-1 : Int32)), .val (.int (0 : Int32))] [(.ref a)])) rfl rfl (hb hby own_d3_51)
    refine go _ _ (st185) ?_
    show G (T185.setTop (mkF m 54 #[.val (.ref a), .val (.int x), .val (.int (-1 : Int32)), .val (.int (0 : Int32))] [(.ref kt2_173)]))
    refine go _ _ (fun _ k => XS.iloadN X185.here hx rfl (hb hby own_d3_54) rfl (XS.aloadN X185.here hx rfl (hb hby own_d3_55) rfl rfl k)) ?_
    show G (T185.setTop (mkF m 56 #[.val (.ref a), .val (.int x), .val (.int (-1 : Int32)), .val (.int (0 : Int32))] [(.ref a), (.int (0 : Int32)), (.ref kt2_173)]))
    obtain ⟨T186, X186, e186, st186⟩ := getF X185 hx hZ hown (host := "") (Or.inl (ow hw 11 rfl)) Via.refl e185 f181 (g := (mkF m 56 #[.val (.ref a), .val (.int x), .val (.int (-1 : Int32)), .val (.int (0 : Int32))] [(.ref a), (.int (0 : Int32)), (.ref kt2_173)])) rfl rfl (hb hby own_d3_56)
    refine go _ _ (st186) ?_
    show G (T186.setTop (mkF m 59 #[.val (.ref a), .val (.int x), .val (.int (-1 : Int32)), .val (.int (0 : Int32))] [(.ref kt2_173), (.int (0 : Int32)), (.ref kt2_173)]))
    refine go _ _ (fun _ k => XS.iloadN X186.here hx rfl (hb hby own_d3_59) rfl (XS.iconst X186.here hx rfl (hb hby own_d3_60) (XS.iadd X186.here hx rfl (hb hby own_d3_61) rfl (XS.aloadN X186.here hx rfl (hb hby own_d3_62) rfl rfl k)))) ?_
    show G (T186.setTop (mkF m 63 #[.val (.ref a), .val (.int x), .val (.int (-1 : Int32)), .val (.int (0 : Int32))] [(.ref a), (.int (1 : Int32)), (.ref kt2_173), (.int (0 : Int32)), (.ref kt2_173)]))
    obtain ⟨T187, X187, e187, st187⟩ := getF X186 hx hZ hown (host := "") (Or.inl (ow hw 26 rfl)) Via.refl e186 f180 (g := (mkF m 63 #[.val (.ref a), .val (.int x), .val (.int (-1 : Int32)), .val (.int (0 : Int32))] [(.ref a), (.int (1 : Int32)), (.ref kt2_173), (.int (0 : Int32)), (.ref kt2_173)])) rfl rfl (hb hby own_d3_63)
    refine go _ _ (st187) ?_
    show G (T187.setTop (mkF m 66 #[.val (.ref a), .val (.int x), .val (.int (-1 : Int32)), .val (.int (0 : Int32))] [(.int (1 : Int32)), (.int (1 : Int32)), (.ref kt2_173), (.int (0 : Int32)), (.ref kt2_173)]))
    refine go _ _ (fun _ k => XS.iloadN X187.here hx rfl (hb hby own_d3_66) rfl (XS.isub X187.here hx rfl (hb hby own_d3_67) rfl k)) ?_
    show G (T187.setTop (mkF m 68 #[.val (.ref a), .val (.int x), .val (.int (-1 : Int32)), .val (.int (0 : Int32))] [(.int (1 : Int32)), (.int (1 : Int32)), (.ref kt2_173), (.int (0 : Int32)), (.ref kt2_173)]))
    obtain ⟨T188, h188, L188, X188, e188, N188, Kp188, V188, st188⟩ := cpA X187 hx hZ hown (ow hw 61 rfl) (ow hw 56 rfl) (ow hw 54 rfl) (ow hw 55 rfl) e187 f183 f183 (us := [(.int k0)]) (Or.inl ⟨rfl, rfl⟩) (by decide) (by decide) (by decide) (by decide) (by decide) rfl (Nat.le_of_ble_eq_true rfl) N172 (Nat.le_trans Z0 z177) (g := (mkF m 68 #[.val (.ref a), .val (.int x), .val (.int (-1 : Int32)), .val (.int (0 : Int32))] [(.int (1 : Int32)), (.int (1 : Int32)), (.ref kt2_173), (.int (0 : Int32)), (.ref kt2_173)])) rfl (by rw [hml]; rfl) (rest := []) rfl (hb hby own_d3_68) (by decide) (W := 0) (by show 2 * 0 + _ ≤ _; exact Nat.le_of_eq rfl) (by decide)
    have Vq188 : Arv Z h188 kt2_173 kk2_175 .int (2 : Int32) [(.int k0), (.int k0)] (.int (0 : Int32)) := V188
    refine go _ _ (st188) ?_
    show G (T188.setTop (mkF m 71 #[.val (.ref a), .val (.int x), .val (.int (-1 : Int32)), .val (.int (0 : Int32))] []))
    refine go _ _ (fun _ k => XS.aloadN X188.here hx rfl (hb hby own_d3_71) rfl rfl k) ?_
    show G (T188.setTop (mkF m 72 #[.val (.ref a), .val (.int x), .val (.int (-1 : Int32)), .val (.int (0 : Int32))] [(.ref a)]))
    have K190 : Keep T172.heap h188 [kt2_173] := (Keep.refl T172.heap [kt2_173]).trans Kp188 (allS (Or.inl (List.mem_of_getElem? (i := 0) rfl)) all0)
    have F191 : Fld Z h188 a "com/example/hatoyama/hatoyama/IndexSet" "words" "[J" (.ref wt2_174) := (f182.keep K190 (ninS (Nat.ne_of_lt (Nat.lt_of_lt_of_le Ea.lt z177)) nin0))
    obtain ⟨T189, X189, e189, st189⟩ := getF X188 hx hZ hown (host := "") (Or.inl (ow hw 15 rfl)) Via.refl e188 F191 (g := (mkF m 72 #[.val (.ref a), .val (.int x), .val (.int (-1 : Int32)), .val (.int (0 : Int32))] [(.ref a)])) rfl rfl (hb hby own_d3_72)
    refine go _ _ (st189) ?_
    show G (T189.setTop (mkF m 75 #[.val (.ref a), .val (.int x), .val (.int (-1 : Int32)), .val (.int (0 : Int32))] [(.ref wt2_174)]))
    refine go _ _ (fun _ k => XS.iloadN X189.here hx rfl (hb hby own_d3_75) rfl (XS.aloadN X189.here hx rfl (hb hby own_d3_76) rfl rfl k)) ?_
    show G (T189.setTop (mkF m 77 #[.val (.ref a), .val (.int x), .val (.int (-1 : Int32)), .val (.int (0 : Int32))] [(.ref a), (.int (0 : Int32)), (.ref wt2_174)]))
    obtain ⟨T192, X192, e192, st192⟩ := getF X189 hx hZ hown (host := "") (Or.inl (ow hw 15 rfl)) Via.refl e189 F191 (g := (mkF m 77 #[.val (.ref a), .val (.int x), .val (.int (-1 : Int32)), .val (.int (0 : Int32))] [(.ref a), (.int (0 : Int32)), (.ref wt2_174)])) rfl rfl (hb hby own_d3_77)
    refine go _ _ (st192) ?_
    show G (T192.setTop (mkF m 80 #[.val (.ref a), .val (.int x), .val (.int (-1 : Int32)), .val (.int (0 : Int32))] [(.ref wt2_174), (.int (0 : Int32)), (.ref wt2_174)]))
    refine go _ _ (fun _ k => XS.iloadN X192.here hx rfl (hb hby own_d3_80) rfl (XS.iconst X192.here hx rfl (hb hby own_d3_81) (XS.iadd X192.here hx rfl (hb hby own_d3_82) rfl (XS.aloadN X192.here hx rfl (hb hby own_d3_83) rfl rfl k)))) ?_
    show G (T192.setTop (mkF m 84 #[.val (.ref a), .val (.int x), .val (.int (-1 : Int32)), .val (.int (0 : Int32))] [(.ref a), (.int (1 : Int32)), (.ref wt2_174), (.int (0 : Int32)), (.ref wt2_174)]))
    have F194 : Fld Z h188 a "com/example/hatoyama/hatoyama/IndexSet" "used" "I" (.int (1 : Int32)) := (f180.keep K190 (ninS (Nat.ne_of_lt (Nat.lt_of_lt_of_le Ea.lt z177)) nin0))
    obtain ⟨T193, X193, e193, st193⟩ := getF X192 hx hZ hown (host := "") (Or.inl (ow hw 26 rfl)) Via.refl e192 F194 (g := (mkF m 84 #[.val (.ref a), .val (.int x), .val (.int (-1 : Int32)), .val (.int (0 : Int32))] [(.ref a), (.int (1 : Int32)), (.ref wt2_174), (.int (0 : Int32)), (.ref wt2_174)])) rfl rfl (hb hby own_d3_84)
    refine go _ _ (st193) ?_
    show G (T193.setTop (mkF m 87 #[.val (.ref a), .val (.int x), .val (.int (-1 : Int32)), .val (.int (0 : Int32))] [(.int (1 : Int32)), (.int (1 : Int32)), (.ref wt2_174), (.int (0 : Int32)), (.ref wt2_174)]))
    refine go _ _ (fun _ k => XS.iloadN X193.here hx rfl (hb hby own_d3_87) rfl (XS.isub X193.here hx rfl (hb hby own_d3_88) rfl k)) ?_
    show G (T193.setTop (mkF m 89 #[.val (.ref a), .val (.int x), .val (.int (-1 : Int32)), .val (.int (0 : Int32))] [(.int (1 : Int32)), (.int (1 : Int32)), (.ref wt2_174), (.int (0 : Int32)), (.ref wt2_174)]))
    have ne196 : wt2_174 ≠ kt2_173 := own_neA f184 f183 (by decide)
    have F197 : Arv Z h188 wt2_174 kw2_176 .long (2 : Int32) [(.long w0), (.long (0 : Int64))] (.long (0 : Int64)) := (f184.keep K190 (ninS ne196 nin0))
    obtain ⟨T195, h195, L195, X195, e195, N195, Kp195, V195, st195⟩ := cpA X193 hx hZ hown (ow hw 61 rfl) (ow hw 56 rfl) (ow hw 54 rfl) (ow hw 55 rfl) e193 F197 F197 (us := [(.long w0)]) (Or.inl ⟨rfl, rfl⟩) (by decide) (by decide) (by decide) (by decide) (by decide) rfl (Nat.le_of_ble_eq_true rfl) N188 (Nat.le_trans Z0 z178) (g := (mkF m 89 #[.val (.ref a), .val (.int x), .val (.int (-1 : Int32)), .val (.int (0 : Int32))] [(.int (1 : Int32)), (.int (1 : Int32)), (.ref wt2_174), (.int (0 : Int32)), (.ref wt2_174)])) rfl (by rw [hml]; rfl) (rest := []) rfl (hb hby own_d3_89) (by decide) (W := 0) (by show 2 * 0 + _ ≤ _; exact Nat.le_of_eq rfl) (by decide)
    have Vq195 : Arv Z h195 wt2_174 kw2_176 .long (2 : Int32) [(.long w0), (.long w0)] (.long (0 : Int64)) := V195
    refine go _ _ (st195) ?_
    show G (T195.setTop (mkF m 92 #[.val (.ref a), .val (.int x), .val (.int (-1 : Int32)), .val (.int (0 : Int32))] []))
    refine go _ _ (fun _ k => XS.aloadN X195.here hx rfl (hb hby own_d3_92) rfl rfl k) ?_
    show G (T195.setTop (mkF m 93 #[.val (.ref a), .val (.int x), .val (.int (-1 : Int32)), .val (.int (0 : Int32))] [(.ref a)]))
    have K199 : Keep T172.heap h188 [kt2_173, wt2_174] := (Keep.refl T172.heap [kt2_173, wt2_174]).trans Kp188 (allS (Or.inl (List.mem_of_getElem? (i := 0) rfl)) all0)
    have K200 : Keep T172.heap h195 [kt2_173, wt2_174] := K199.trans Kp195 (allS (Or.inl (List.mem_of_getElem? (i := 1) rfl)) all0)
    have F201 : Fld Z h195 a "com/example/hatoyama/hatoyama/IndexSet" "keys" "[I" (.ref kt2_173) := (f181.keep K200 (ninS (Nat.ne_of_lt (Nat.lt_of_lt_of_le Ea.lt z177)) (ninS (Nat.ne_of_lt (Nat.lt_of_lt_of_le Ea.lt z178)) nin0)))
    obtain ⟨T198, X198, e198, st198⟩ := getF X195 hx hZ hown (host := "") (Or.inl (ow hw 11 rfl)) Via.refl e195 F201 (g := (mkF m 93 #[.val (.ref a), .val (.int x), .val (.int (-1 : Int32)), .val (.int (0 : Int32))] [(.ref a)])) rfl rfl (hb hby own_d3_93)
    refine go _ _ (st198) ?_
    show G (T198.setTop (mkF m 96 #[.val (.ref a), .val (.int x), .val (.int (-1 : Int32)), .val (.int (0 : Int32))] [(.ref kt2_173)]))
    refine go _ _ (fun _ k => XS.iloadN X198.here hx rfl (hb hby own_d3_96) rfl (XS.iloadN X198.here hx rfl (hb hby own_d3_97) rfl (XS.bipush X198.here hx rfl (hb hby own_d3_98) (XS.iushr X198.here hx rfl (hb hby own_d3_100) rfl k)))) ?_
    show G (T198.setTop (mkF m 101 #[.val (.ref a), .val (.int x), .val (.int (-1 : Int32)), .val (.int (0 : Int32))] [(.int ((x.toUInt32 >>> ((6 : Int32) &&& 31).toUInt32).toInt32)), (.int (0 : Int32)), (.ref kt2_173)]))
    have K203 : Keep h188 h195 [wt2_174] := (Keep.refl h188 [wt2_174]).trans Kp195 (allS (Or.inl (List.mem_of_getElem? (i := 0) rfl)) all0)
    have F204 : Arv Z h195 kt2_173 kk2_175 .int (2 : Int32) [(.int k0), (.int k0)] (.int (0 : Int32)) := (Vq188.keep K203 (ninS (Ne.symm ne196) nin0))
    obtain ⟨cl202, Ar202, q202, S202, M202, H202, U202⟩ := id F204
    obtain ⟨T202, h202, X202, e202, W202, st202⟩ := stI X198 hx hZ e198 Ar202 (j := (0 : Int32)) (inb_of S202 ⟨by decide, by decide⟩) (g := (mkF m 101 #[.val (.ref a), .val (.int x), .val (.int (-1 : Int32)), .val (.int (0 : Int32))] [(.int ((x.toUInt32 >>> ((6 : Int32) &&& 31).toUInt32).toInt32)), (.int (0 : Int32)), (.ref kt2_173)])) rfl rfl (hb hby own_d3_101)
    have V202 : Arv Z h202 kt2_173 kk2_175 .int (2 : Int32) [(.int ((x.toUInt32 >>> ((6 : Int32) &&& 31).toUInt32).toInt32)), (.int k0)] (.int (0 : Int32)) := Arv.set Ar202 q202 S202 M202 H202 U202 rfl W202 0 rfl (Nat.le_of_ble_eq_true rfl)
    have N202 := Fr.snoc X202 N195 (Nat.le_trans Z0 z177)
    refine go _ _ (st202) ?_
    show G (T202.setTop (mkF m 102 #[.val (.ref a), .val (.int x), .val (.int (-1 : Int32)), .val (.int (0 : Int32))] []))
    refine go _ _ (fun _ k => XS.aloadN X202.here hx rfl (hb hby own_d3_102) rfl rfl k) ?_
    show G (T202.setTop (mkF m 103 #[.val (.ref a), .val (.int x), .val (.int (-1 : Int32)), .val (.int (0 : Int32))] [(.ref a)]))
    have K206 : Keep h188 h195 [wt2_174, kt2_173] := (Keep.refl h188 [wt2_174, kt2_173]).trans Kp195 (allS (Or.inl (List.mem_of_getElem? (i := 0) rfl)) all0)
    have K207 : Keep h188 h202 [wt2_174, kt2_173] := K206.wr W202 (Or.inl (List.mem_of_getElem? (i := 1) rfl))
    have F208 : Fld Z h202 a "com/example/hatoyama/hatoyama/IndexSet" "words" "[J" (.ref wt2_174) := (F191.keep K207 (ninS (Nat.ne_of_lt (Nat.lt_of_lt_of_le Ea.lt z178)) (ninS (Nat.ne_of_lt (Nat.lt_of_lt_of_le Ea.lt z177)) nin0)))
    obtain ⟨T205, X205, e205, st205⟩ := getF X202 hx hZ hown (host := "") (Or.inl (ow hw 15 rfl)) Via.refl e202 F208 (g := (mkF m 103 #[.val (.ref a), .val (.int x), .val (.int (-1 : Int32)), .val (.int (0 : Int32))] [(.ref a)])) rfl rfl (hb hby own_d3_103)
    refine go _ _ (st205) ?_
    show G (T205.setTop (mkF m 106 #[.val (.ref a), .val (.int x), .val (.int (-1 : Int32)), .val (.int (0 : Int32))] [(.ref wt2_174)]))
    refine go _ _ (fun _ k => XS.iloadN X205.here hx rfl (hb hby own_d3_106) rfl (XS.lconst X205.here hx rfl (hb hby own_d3_107) (XS.iloadN X205.here hx rfl (hb hby own_d3_108) rfl (XS.lshl X205.here hx rfl (hb hby own_d3_109) rfl k)))) ?_
    show G (T205.setTop (mkF m 110 #[.val (.ref a), .val (.int x), .val (.int (-1 : Int32)), .val (.int (0 : Int32))] [(.long ((1 : Int64) <<< (x &&& 0x3f).toInt64)), (.int (0 : Int32)), (.ref wt2_174)]))
    have K210 : Keep h195 h202 [kt2_173] := (Keep.refl h195 [kt2_173]).wr W202 (Or.inl (List.mem_of_getElem? (i := 0) rfl))
    have F211 : Arv Z h202 wt2_174 kw2_176 .long (2 : Int32) [(.long w0), (.long w0)] (.long (0 : Int64)) := (Vq195.keep K210 (ninS ne196 nin0))
    obtain ⟨cl209, Ar209, q209, S209, M209, H209, U209⟩ := id F211
    obtain ⟨T209, h209, X209, e209, W209, st209⟩ := stJ X205 hx hZ e205 Ar209 (j := (0 : Int32)) (inb_of S209 ⟨by decide, by decide⟩) (g := (mkF m 110 #[.val (.ref a), .val (.int x), .val (.int (-1 : Int32)), .val (.int (0 : Int32))] [(.long ((1 : Int64) <<< (x &&& 0x3f).toInt64)), (.int (0 : Int32)), (.ref wt2_174)])) rfl rfl (hb hby own_d3_110)
    have V209 : Arv Z h209 wt2_174 kw2_176 .long (2 : Int32) [(.long ((1 : Int64) <<< (x &&& 0x3f).toInt64)), (.long w0)] (.long (0 : Int64)) := Arv.set Ar209 q209 S209 M209 H209 U209 rfl W209 0 rfl (Nat.le_of_ble_eq_true rfl)
    have N209 := Fr.snoc X209 N202 (Nat.le_trans Z0 z178)
    refine go _ _ (st209) ?_
    show G (T209.setTop (mkF m 111 #[.val (.ref a), .val (.int x), .val (.int (-1 : Int32)), .val (.int (0 : Int32))] []))
    refine go _ _ (fun _ k => XS.aloadN X209.here hx rfl (hb hby own_d3_111) rfl rfl (XS.dup X209.here hx rfl (hb hby own_d3_112) rfl rfl k)) ?_
    show G (T209.setTop (mkF m 113 #[.val (.ref a), .val (.int x), .val (.int (-1 : Int32)), .val (.int (0 : Int32))] [(.ref a), (.ref a)]))
    have K213 : Keep h188 h209 [wt2_174, kt2_173] := K207.wr W209 (Or.inl (List.mem_of_getElem? (i := 0) rfl))
    have F214 : Fld Z h209 a "com/example/hatoyama/hatoyama/IndexSet" "used" "I" (.int (1 : Int32)) := (F194.keep K213 (ninS (Nat.ne_of_lt (Nat.lt_of_lt_of_le Ea.lt z178)) (ninS (Nat.ne_of_lt (Nat.lt_of_lt_of_le Ea.lt z177)) nin0)))
    obtain ⟨T212, X212, e212, st212⟩ := getF X209 hx hZ hown (host := "") (Or.inl (ow hw 26 rfl)) Via.refl e209 F214 (g := (mkF m 113 #[.val (.ref a), .val (.int x), .val (.int (-1 : Int32)), .val (.int (0 : Int32))] [(.ref a), (.ref a)])) rfl rfl (hb hby own_d3_113)
    refine go _ _ (st212) ?_
    show G (T212.setTop (mkF m 116 #[.val (.ref a), .val (.int x), .val (.int (-1 : Int32)), .val (.int (0 : Int32))] [(.int (1 : Int32)), (.ref a)]))
    refine go _ _ (fun _ k => XS.iconst X212.here hx rfl (hb hby own_d3_116) (XS.iadd X212.here hx rfl (hb hby own_d3_117) rfl k)) ?_
    show G (T212.setTop (mkF m 118 #[.val (.ref a), .val (.int x), .val (.int (-1 : Int32)), .val (.int (0 : Int32))] [(.int (2 : Int32)), (.ref a)]))
    have K216 : Keep T172.heap h202 [kt2_173, wt2_174] := K200.wr W202 (Or.inl (List.mem_of_getElem? (i := 0) rfl))
    have K217 : Keep T172.heap h209 [kt2_173, wt2_174] := K216.wr W209 (Or.inl (List.mem_of_getElem? (i := 1) rfl))
    have F218 : Exa Z h209 a "com/example/hatoyama/hatoyama/IndexSet" := (f179.keep K217)
    obtain ⟨T215, h215, X215, e215, W215, st215⟩ := putF X212 hx hZ hown (host := "") (Or.inl (ow hw 26 rfl)) Via.refl e212 F214 F218 (Or.inl (ow hw 27 rfl)) (ow hw 1 rfl) (ty := .int) (by decide) rfl rfl (g := (mkF m 118 #[.val (.ref a), .val (.int x), .val (.int (-1 : Int32)), .val (.int (0 : Int32))] [(.int (2 : Int32)), (.ref a)])) rfl rfl (hb hby own_d3_118)
    have K219 : Keep h195 h202 [kt2_173, wt2_174] := (Keep.refl h195 [kt2_173, wt2_174]).wr W202 (Or.inl (List.mem_of_getElem? (i := 0) rfl))
    have K220 : Keep h195 h209 [kt2_173, wt2_174] := K219.wr W209 (Or.inl (List.mem_of_getElem? (i := 1) rfl))
    have F221 : Fld Z h209 a "com/example/hatoyama/hatoyama/IndexSet" "keys" "[I" (.ref kt2_173) := (F201.keep K220 (ninS (Nat.ne_of_lt (Nat.lt_of_lt_of_le Ea.lt z177)) (ninS (Nat.ne_of_lt (Nat.lt_of_lt_of_le Ea.lt z178)) nin0)))
    have K222 : Keep h202 h209 [wt2_174] := (Keep.refl h202 [wt2_174]).wr W209 (Or.inl (List.mem_of_getElem? (i := 0) rfl))
    have F223 : Fld Z h209 a "com/example/hatoyama/hatoyama/IndexSet" "words" "[J" (.ref wt2_174) := (F208.keep K222 (ninS (Nat.ne_of_lt (Nat.lt_of_lt_of_le Ea.lt z178)) nin0))
    have N215 := Fr.snoc X215 N209 gz_a
    refine go _ _ (st215) ?_
    show G (T215.setTop (mkF m 121 #[.val (.ref a), .val (.int x), .val (.int (-1 : Int32)), .val (.int (0 : Int32))] []))
    have K224 : Keep h0 T172.heap [a, wt] := (Keep.refl h0 [a, wt]).trans Kp172 (allS (Or.inl (List.mem_of_getElem? (i := 0) rfl)) all0)
    have K225 : Keep h0 h188 [a, wt] := K224.trans Kp188 (allS (Or.inr z177) all0)
    have K226 : Keep h0 h195 [a, wt] := K225.trans Kp195 (allS (Or.inr z178) all0)
    have K227 : Keep h0 h202 [a, wt] := K226.wr W202 (Or.inr z177)
    have K228 : Keep h0 h209 [a, wt] := K227.wr W209 (Or.inr z178)
    have K229 : Keep h0 h215 [a, wt] := K228.wr W215 (Or.inl (List.mem_of_getElem? (i := 0) rfl))
    have K230 : Keep h202 h209 [wt2_174, a] := (Keep.refl h202 [wt2_174, a]).wr W209 (Or.inl (List.mem_of_getElem? (i := 0) rfl))
    have K231 : Keep h202 h215 [wt2_174, a] := K230.wr W215 (Or.inl (List.mem_of_getElem? (i := 1) rfl))
    have F232 : Arv Z h215 kt2_173 kk2_175 .int (2 : Int32) [(.int ((x.toUInt32 >>> ((6 : Int32) &&& 31).toUInt32).toInt32)), (.int k0)] (.int (0 : Int32)) := (V202.keep K231 (ninS (Ne.symm ne196) (ninS (Ne.symm (Nat.ne_of_lt (Nat.lt_of_lt_of_le Ea.lt z177))) nin0)))
    have K233 : Keep h209 h215 [a] := (Keep.refl h209 [a]).wr W215 (Or.inl (List.mem_of_getElem? (i := 0) rfl))
    have F234 : Arv Z h215 wt2_174 kw2_176 .long (2 : Int32) [(.long ((1 : Int64) <<< (x &&& 0x3f).toInt64)), (.long w0)] (.long (0 : Int64)) := (V209.keep K233 (ninS (Ne.symm (Nat.ne_of_lt (Nat.lt_of_lt_of_le Ea.lt z178))) nin0))
    refine fin T215 _ _ _ none X215 (fun _ => rfl) (by decide) (by decide) (by rw [e215]; exact ⟨N215, K229, (Or.inr ⟨kt2_173, wt2_174, kk2_175, kw2_176, ((x.toUInt32 >>> ((6 : Int32) &&& 31).toUInt32).toInt32), k0, ((1 : Int64) <<< (x &&& 0x3f).toInt64), w0, rfl, z177, z178, (own_srt2 p105 ⟨x, rfl⟩ (own_srtm hs (i := 0) (p := (k0, w0)) rfl)), (own_add_ins [] [(k0, w0)] x), (F218.wr W215), (F214.same W215), (F221.other W215 (Or.inr (RoadKit.slot_ne (t := (.array .int)) (t' := .int) (Or.inl (ow hw 12 rfl)) (Or.inl (ow hw 27 rfl)) (by decide) (by decide) (by decide)))), (F223.other W215 (Or.inr (RoadKit.slot_ne (t := (.array .long)) (t' := .int) (Or.inl (ow hw 16 rfl)) (Or.inl (ow hw 27 rfl)) (by decide) (by decide) (by decide)))), F232, F234⟩)⟩) _ (own_retV X215 hx hret (hb hby own_d3_121))
  · refine go _ _ (st103) ?_
    show G (T103.setTop (mkF m 16 #[.val (.ref a), .val (.int x), .unset, .unset] [(.int (0 : Int32))]))
    refine go _ _ (fun _ k => XS.istoreN X103.here hx rfl (hb hby own_d3_16) rfl (l' := #[.val (.ref a), .val (.int x), .val (.int (0 : Int32)), .unset]) rfl (XS.iloadN X103.here hx rfl (hb hby own_d3_17) rfl k)) ?_
    show G (T103.setTop (mkF m 18 #[.val (.ref a), .val (.int x), .val (.int (0 : Int32)), .unset] [(.int (0 : Int32))]))
    refine go _ _ (fun _ k => XS.ifNo X103.here hx rfl (hb hby own_d3_18) rfl (by decide) k) ?_
    show G (T103.setTop (mkF m 21 #[.val (.ref a), .val (.int x), .val (.int (0 : Int32)), .unset] []))
    refine go _ _ (fun _ k => XS.aloadN X103.here hx rfl (hb hby own_d3_21) rfl rfl k) ?_
    show G (T103.setTop (mkF m 22 #[.val (.ref a), .val (.int x), .val (.int (0 : Int32)), .unset] [(.ref a)]))
    obtain ⟨T235, X235, e235, st235⟩ := getF X103 hx hZ hown (host := "") (Or.inl (ow hw 15 rfl)) Via.refl e103 Fw (g := (mkF m 22 #[.val (.ref a), .val (.int x), .val (.int (0 : Int32)), .unset] [(.ref a)])) rfl rfl (hb hby own_d3_22)
    refine go _ _ (st235) ?_
    show G (T235.setTop (mkF m 25 #[.val (.ref a), .val (.int x), .val (.int (0 : Int32)), .unset] [(.ref wt)]))
    refine go _ _ (fun _ k => XS.iloadN X235.here hx rfl (hb hby own_d3_25) rfl (XT.dup2 X235.here hx rfl (hb hby own_d3_26) rfl rfl rfl k)) ?_
    show G (T235.setTop (mkF m 27 #[.val (.ref a), .val (.int x), .val (.int (0 : Int32)), .unset] [(.int (0 : Int32)), (.ref wt), (.int (0 : Int32)), (.ref wt)]))
    obtain ⟨cl236, Ar236, q236, S236, M236, H236, U236⟩ := id Aw
    refine go _ _ (fun _ k => X235.laload hx (j := (0 : Int32)) (v := (.long w0)) (by rw [e235]; exact Ar236.1) (State.isArrayOf_alike hZ.alike Ar236.2.1) Ar236.2.2 (inb_of S236 ⟨by decide, by decide⟩) (Has.at H236 (inb_of S236 ⟨by decide, by decide⟩) rfl) (g := (mkF m 27 #[.val (.ref a), .val (.int x), .val (.int (0 : Int32)), .unset] [(.int (0 : Int32)), (.ref wt), (.int (0 : Int32)), (.ref wt)])) rfl rfl (hb hby own_d3_27) _ k) ?_
    show G (T235.setTop (mkF m 28 #[.val (.ref a), .val (.int x), .val (.int (0 : Int32)), .unset] [(.long w0), (.int (0 : Int32)), (.ref wt)]))
    refine go _ _ (fun _ k => XS.lconst X235.here hx rfl (hb hby own_d3_28) (XS.iloadN X235.here hx rfl (hb hby own_d3_29) rfl (XS.lshl X235.here hx rfl (hb hby own_d3_30) rfl (XS.lor X235.here hx rfl (hb hby own_d3_31) rfl k)))) ?_
    show G (T235.setTop (mkF m 32 #[.val (.ref a), .val (.int x), .val (.int (0 : Int32)), .unset] [(.long (w0 ||| ((1 : Int64) <<< (x &&& 0x3f).toInt64))), (.int (0 : Int32)), (.ref wt)]))
    obtain ⟨cl237, Ar237, q237, S237, M237, H237, U237⟩ := id Aw
    obtain ⟨T237, h237, X237, e237, W237, st237⟩ := stJ X235 hx hZ e235 Ar237 (j := (0 : Int32)) (inb_of S237 ⟨by decide, by decide⟩) (g := (mkF m 32 #[.val (.ref a), .val (.int x), .val (.int (0 : Int32)), .unset] [(.long (w0 ||| ((1 : Int64) <<< (x &&& 0x3f).toInt64))), (.int (0 : Int32)), (.ref wt)])) rfl rfl (hb hby own_d3_32)
    have V237 : Arv Z h237 wt kw .long (1 : Int32) [(.long (w0 ||| ((1 : Int64) <<< (x &&& 0x3f).toInt64)))] (.long (0 : Int64)) := Arv.set Ar237 q237 S237 M237 H237 U237 rfl W237 0 rfl (Nat.le_of_ble_eq_true rfl)
    have N237 := Fr.snoc X237 N103 gz_wt
    refine go _ _ (st237) ?_
    show G (T237.setTop (mkF m 33 #[.val (.ref a), .val (.int x), .val (.int (0 : Int32)), .unset] []))
    refine go _ _ (fun _ k => XS.goto X237.here hx rfl (pc0 := 33) (pc' := 121) rfl (hb hby own_d3_33) (by decide) (by decide) k) ?_
    show G (T237.setTop (mkF m 121 #[.val (.ref a), .val (.int x), .val (.int (0 : Int32)), .unset] []))
    have K238 : Keep h0 h237 [a, wt] := (Keep.refl h0 [a, wt]).wr W237 (Or.inl (List.mem_of_getElem? (i := 1) rfl))
    have K239 : Keep h0 h237 [wt] := (Keep.refl h0 [wt]).wr W237 (Or.inl (List.mem_of_getElem? (i := 0) rfl))
    have F240 : Exa Z h237 a "com/example/hatoyama/hatoyama/IndexSet" := (Ea.keep K239)
    have F241 : Fld Z h237 a "com/example/hatoyama/hatoyama/IndexSet" "used" "I" (.int (1 : Int32)) := (Fu.keep K239 (ninS (Exa.neArv Ea Aw (ow hw 1 rfl)) nin0))
    have F242 : Fld Z h237 a "com/example/hatoyama/hatoyama/IndexSet" "keys" "[I" (.ref kt) := (Fk.keep K239 (ninS (Exa.neArv Ea Aw (ow hw 1 rfl)) nin0))
    have F243 : Fld Z h237 a "com/example/hatoyama/hatoyama/IndexSet" "words" "[J" (.ref wt) := (Fw.keep K239 (ninS (Exa.neArv Ea Aw (ow hw 1 rfl)) nin0))
    have F244 : Arv Z h237 kt kk .int (1 : Int32) [(.int k0)] (.int (0 : Int32)) := (Ak.keep K239 (ninS (own_neA Ak Aw (by decide)) nin0))
    refine fin T237 _ _ _ none X237 (fun _ => rfl) (by decide) (by decide) (by rw [e237]; exact ⟨N237, K238, (Or.inl ⟨(w0 ||| ((1 : Int64) <<< (x &&& 0x3f).toInt64)), rfl, (own_srt1 (own_srtm hs (i := 0) (p := (k0, w0)) rfl)), (own_add_or [] [] k0 w0 x p106), F240, F241, F242, F243, F244, V237⟩)⟩) _ (own_retV X237 hx hret (hb hby own_d3_121))
set_option maxHeartbeats 4000000 in
theorem own_ef_rmCI2 (m : MethodId) (x0 : Addr) (x1 : Int32) : entryFrame m #[(.ref x0), (.int x1)] 3 = mkF m 0 #[.val (.ref x0), .val (.int x1), .unset] [] := by rfl
set_option maxRecDepth 65536 in
set_option maxHeartbeats 40000000 in
theorem rmCI2 (l : Launch) (Z : State) (a0 : Array Value) (hw : ∀ d ∈ tables_1, d.before a0 Z = true) (nk : Addr) (kk0 : ClassId) (O_nk : Sta Z Z.heap "com/example/hatoyama/hatoyama/IndexSet" "NO_KEYS" "[I" (.ref nk)) (V_nk : Arv Z Z.heap nk kk0 .int (0 : Int32) [] (.int (0 : Int32))) (nw : Addr) (kw0 : ClassId) (O_nw : Sta Z Z.heap "com/example/hatoyama/hatoyama/IndexSet" "NO_WORDS" "[J" (.ref nw)) (V_nw : Arv Z Z.heap nw kw0 .long (0 : Int32) [] (.long (0 : Int64))) (ws : List Jvm.Cond) (t : Addr) (kk : ClassId) (k0 : Int32) (k1 : Int32) (h0 : Heap) (n0 : Nat) (Z0 : n0 ≤ h0.size) (At : Arv Z h0 t kk .int (2 : Int32) [(.int k0), (.int k1)] (.int (0 : Int32))) :
    own_MetN l Z (⟨"java/util/Arrays", "copyOf", "([II)[I"⟩ : MethodName) jdk_65_method_123_code 3 (some (.array .int)) ws ({ frames := 1, cells := 1, slots := 3, locals := 27 } : Room) #[(.ref t), (.int (3 : Int32))] h0 (fun v h L => Fr n0 L ∧ Keep h0 h [] ∧ ((∃ (b : Addr) (kb : ClassId), (v = some (.ref b)) ∧ (h0.size ≤ b) ∧ (Arv Z h b kb .int (3 : Int32) [(.int k0), (.int k1), (.int (0 : Int32))] (.int (0 : Int32)))))) := by
  refine own_metN (plainFor_of_name own_pn2) ?_
  intro p e s m below meth c s₁ G hx hby hml hZ hown hnm hret X0 e0 go fin
  have N0 := Fr.nil n0
  refine go _ _ (fun _ k => castTop (own_ef_rmCI2 m t (3 : Int32)) k) ?_
  show G (s₁.setTop (mkF m 0 #[.val (.ref t), .val (.int (3 : Int32)), .unset] []))
  refine go _ _ (fun _ k => XS.iloadN X0.here hx rfl (hb hby own_d9_0) rfl (XS.aloadN X0.here hx rfl (hb hby own_d9_1) rfl rfl k)) ?_
  show G (s₁.setTop (mkF m 2 #[.val (.ref t), .val (.int (3 : Int32)), .unset] [(.ref t), (.int (3 : Int32))]))
  obtain ⟨cl101, Ar101, q101, S101, M101, H101, U101⟩ := id At
  refine go _ _ (fun _ k => X0.arraylength hx (by rw [e0]; exact Ar101.1) (State.isArrayOf_alike hZ.alike Ar101.2.1) (g := (mkF m 2 #[.val (.ref t), .val (.int (3 : Int32)), .unset] [(.ref t), (.int (3 : Int32))])) rfl rfl (hb hby own_d9_2) _ k) ?_
  show G (s₁.setTop (mkF m 3 #[.val (.ref t), .val (.int (3 : Int32)), .unset] [(.int cl101.slots.size.toInt32), (.int (3 : Int32))]))
  rw [len_of S101 M101]
  show G (s₁.setTop (mkF m 3 #[.val (.ref t), .val (.int (3 : Int32)), .unset] [(.int (2 : Int32)), (.int (3 : Int32))]))
  refine go _ _ (fun _ k => XS.icmpYes X0.here hx rfl (pc0 := 3) (pc' := 14) rfl (hb hby own_d9_3) rfl (by decide) (by decide) (by decide) k) ?_
  show G (s₁.setTop (mkF m 14 #[.val (.ref t), .val (.int (3 : Int32)), .unset] []))
  refine go _ _ (fun _ k => XS.iloadN X0.here hx rfl (hb hby own_d9_14) rfl k) ?_
  show G (s₁.setTop (mkF m 15 #[.val (.ref t), .val (.int (3 : Int32)), .unset] [(.int (3 : Int32))]))
  obtain ⟨T102, h102, k102, X102, e102, E102, A102, st102⟩ := newP X0 hx hZ (ow hw 49 rfl) e0 (g := (mkF m 15 #[.val (.ref t), .val (.int (3 : Int32)), .unset] [(.int (3 : Int32))])) rfl (hb hby own_d9_15) rfl (by decide) (cap := 3) (by decide) (by decide) (by decide) (by decide)
  obtain ⟨b102, g102⟩ : ∃ z, z = h0.size := ⟨_, rfl⟩
  rw [← g102] at A102 st102
  have V102 : Arv Z h102 b102 k102 .int (3 : Int32) [(.int (0 : Int32)), (.int (0 : Int32)), (.int (0 : Int32))] (.int (0 : Int32)) := (Arv.new A102 (by decide)).pad (pad_rep [] (.int (0 : Int32)) 3)
  refine go _ _ (st102) ?_
  show G (T102.setTop (mkF m 17 #[.val (.ref t), .val (.int (3 : Int32)), .unset] [(.ref b102)]))
  refine go _ _ (fun _ k => XS.astoreN X102.here hx rfl (hb hby own_d9_17) rfl rfl (l' := #[.val (.ref t), .val (.int (3 : Int32)), .val (.ref b102)]) rfl (XS.aloadN X102.here hx rfl (hb hby own_d9_18) rfl rfl (XS.iconst X102.here hx rfl (hb hby own_d9_19) (XS.aloadN X102.here hx rfl (hb hby own_d9_20) rfl rfl (XS.iconst X102.here hx rfl (hb hby own_d9_21) (XS.aloadN X102.here hx rfl (hb hby own_d9_22) rfl rfl k)))))) ?_
  show G (T102.setTop (mkF m 23 #[.val (.ref t), .val (.int (3 : Int32)), .val (.ref b102)] [(.ref t), (.int (0 : Int32)), (.ref b102), (.int (0 : Int32)), (.ref t)]))
  have K104 : Keep h0 h102 [] := (Keep.refl h0 []).ext E102
  have F105 : Arv Z h102 t kk .int (2 : Int32) [(.int k0), (.int k1)] (.int (0 : Int32)) := (At.keep K104 nin0)
  obtain ⟨cl103, Ar103, q103, S103, M103, H103, U103⟩ := id F105
  refine go _ _ (fun _ k => X102.arraylength hx (by rw [e102]; exact Ar103.1) (State.isArrayOf_alike hZ.alike Ar103.2.1) (g := (mkF m 23 #[.val (.ref t), .val (.int (3 : Int32)), .val (.ref b102)] [(.ref t), (.int (0 : Int32)), (.ref b102), (.int (0 : Int32)), (.ref t)])) rfl rfl (hb hby own_d9_23) _ k) ?_
  show G (T102.setTop (mkF m 24 #[.val (.ref t), .val (.int (3 : Int32)), .val (.ref b102)] [(.int cl103.slots.size.toInt32), (.int (0 : Int32)), (.ref b102), (.int (0 : Int32)), (.ref t)]))
  rw [len_of S103 M103]
  show G (T102.setTop (mkF m 24 #[.val (.ref t), .val (.int (3 : Int32)), .val (.ref b102)] [(.int (2 : Int32)), (.int (0 : Int32)), (.ref b102), (.int (0 : Int32)), (.ref t)]))
  refine go _ _ (fun _ k => XS.iloadN X102.here hx rfl (hb hby own_d9_24) rfl k) ?_
  show G (T102.setTop (mkF m 25 #[.val (.ref t), .val (.int (3 : Int32)), .val (.ref b102)] [(.int (3 : Int32)), (.int (2 : Int32)), (.int (0 : Int32)), (.ref b102), (.int (0 : Int32)), (.ref t)]))
  have Z107 : h0.size ≤ h102.size := E102.1
  obtain ⟨rv106, T106, L106, X106, q106, st106⟩ := own_st X102 hx hZ (y := (⟨"java/lang/Math", "min", "(II)I"⟩ : MethodName)) hown (ow hw 50 rfl) (ow hw 51 rfl) (ow hw 44 rfl) (ow hw 52 rfl) (by decide) (own_bkN (W := 4) (rm10 l Z a0 hw nk kk0 O_nk V_nk nw kw0 O_nw V_nw [] (2 : Int32) (3 : Int32) h102 n0 (Nat.le_trans Z0 Z107)) hZ (ow hw 52 rfl) (ow hw 44 rfl) (by decide) (by decide)) e102 (g := (mkF m 25 #[.val (.ref t), .val (.int (3 : Int32)), .val (.ref b102)] [(.int (3 : Int32)), (.int (2 : Int32)), (.int (0 : Int32)), (.ref b102), (.int (0 : Int32)), (.ref t)])) rfl (by rw [hml]; rfl) (argsL := [(.int (2 : Int32)), (.int (3 : Int32))]) (rest := [(.int (0 : Int32)), (.ref b102), (.int (0 : Int32)), (.ref t)]) rfl (lenOf own_pd0 rfl) rfl (by show 2 * 0 + _ ≤ _; exact Nat.le_of_eq rfl) (hb hby own_d9_25) (by decide) (by decide)
  obtain ⟨Nq106, e106, q106⟩ := q106
  have N106 := Fr.app N0 Nq106
  rcases q106 with ⟨rfl, p108⟩ | ⟨rfl, p109⟩
  · exact absurd p108 (by decide)
  · refine go _ _ (st106) ?_
    show G (T106.setTop (mkF m 28 #[.val (.ref t), .val (.int (3 : Int32)), .val (.ref b102)] [(.int (2 : Int32)), (.int (0 : Int32)), (.ref b102), (.int (0 : Int32)), (.ref t)]))
    obtain ⟨T110, h110, L110, X110, e110, N110, Kp110, V110, st110⟩ := cpA X106 hx hZ hown (ow hw 53 rfl) (ow hw 56 rfl) (ow hw 54 rfl) (ow hw 55 rfl) e106 F105 V102 (us := [(.int k0), (.int k1)]) (Or.inl ⟨rfl, rfl⟩) (by decide) (by decide) (by decide) (by decide) (by decide) rfl (Nat.le_of_ble_eq_true rfl) N106 (Nat.le_trans Z0 (Nat.le_of_eq g102.symm)) (g := (mkF m 28 #[.val (.ref t), .val (.int (3 : Int32)), .val (.ref b102)] [(.int (2 : Int32)), (.int (0 : Int32)), (.ref b102), (.int (0 : Int32)), (.ref t)])) rfl (by rw [hml]; rfl) (rest := []) rfl (hb hby own_d9_28) (by decide) (W := 0) (by show 2 * 0 + _ ≤ _; exact Nat.le_of_eq rfl) (by decide)
    have Vq110 : Arv Z h110 b102 k102 .int (3 : Int32) [(.int k0), (.int k1), (.int (0 : Int32))] (.int (0 : Int32)) := V110
    refine go _ _ (st110) ?_
    show G (T110.setTop (mkF m 31 #[.val (.ref t), .val (.int (3 : Int32)), .val (.ref b102)] []))
    refine go _ _ (fun _ k => XS.aloadN X110.here hx rfl (hb hby own_d9_31) rfl rfl k) ?_
    show G (T110.setTop (mkF m 32 #[.val (.ref t), .val (.int (3 : Int32)), .val (.ref b102)] [(.ref b102)]))
    have K111 : Keep h0 h110 [] := K104.trans Kp110 (allS (Or.inr (Nat.le_of_eq g102.symm)) all0)
    refine fin T110 _ _ _ (some (.ref b102)) X110 (fun q => nomatch q) (by decide) (by decide) (by rw [e110]; exact ⟨N110, K111, ⟨b102, k102, rfl, (Nat.le_of_eq g102.symm), Vq110⟩⟩) _ (own_retA X110 hx hret rfl rfl rfl (hb hby own_d9_32))
set_option maxHeartbeats 4000000 in
theorem own_ef_rmCJ2 (m : MethodId) (x0 : Addr) (x1 : Int32) : entryFrame m #[(.ref x0), (.int x1)] 3 = mkF m 0 #[.val (.ref x0), .val (.int x1), .unset] [] := by rfl
set_option maxRecDepth 65536 in
set_option maxHeartbeats 40000000 in
theorem rmCJ2 (l : Launch) (Z : State) (a0 : Array Value) (hw : ∀ d ∈ tables_1, d.before a0 Z = true) (nk : Addr) (kk0 : ClassId) (O_nk : Sta Z Z.heap "com/example/hatoyama/hatoyama/IndexSet" "NO_KEYS" "[I" (.ref nk)) (V_nk : Arv Z Z.heap nk kk0 .int (0 : Int32) [] (.int (0 : Int32))) (nw : Addr) (kw0 : ClassId) (O_nw : Sta Z Z.heap "com/example/hatoyama/hatoyama/IndexSet" "NO_WORDS" "[J" (.ref nw)) (V_nw : Arv Z Z.heap nw kw0 .long (0 : Int32) [] (.long (0 : Int64))) (ws : List Jvm.Cond) (t : Addr) (kw : ClassId) (w0 : Int64) (w1 : Int64) (h0 : Heap) (n0 : Nat) (Z0 : n0 ≤ h0.size) (At : Arv Z h0 t kw .long (2 : Int32) [(.long w0), (.long w1)] (.long (0 : Int64))) :
    own_MetN l Z (⟨"java/util/Arrays", "copyOf", "([JI)[J"⟩ : MethodName) jdk_65_method_124_code 3 (some (.array .long)) ws ({ frames := 1, cells := 1, slots := 3, locals := 27 } : Room) #[(.ref t), (.int (3 : Int32))] h0 (fun v h L => Fr n0 L ∧ Keep h0 h [] ∧ ((∃ (b : Addr) (kb : ClassId), (v = some (.ref b)) ∧ (h0.size ≤ b) ∧ (Arv Z h b kb .long (3 : Int32) [(.long w0), (.long w1), (.long (0 : Int64))] (.long (0 : Int64)))))) := by
  refine own_metN (plainFor_of_name own_pn2) ?_
  intro p e s m below meth c s₁ G hx hby hml hZ hown hnm hret X0 e0 go fin
  have N0 := Fr.nil n0
  refine go _ _ (fun _ k => castTop (own_ef_rmCJ2 m t (3 : Int32)) k) ?_
  show G (s₁.setTop (mkF m 0 #[.val (.ref t), .val (.int (3 : Int32)), .unset] []))
  refine go _ _ (fun _ k => XS.iloadN X0.here hx rfl (hb hby own_d11_0) rfl (XS.aloadN X0.here hx rfl (hb hby own_d11_1) rfl rfl k)) ?_
  show G (s₁.setTop (mkF m 2 #[.val (.ref t), .val (.int (3 : Int32)), .unset] [(.ref t), (.int (3 : Int32))]))
  obtain ⟨cl101, Ar101, q101, S101, M101, H101, U101⟩ := id At
  refine go _ _ (fun _ k => X0.arraylength hx (by rw [e0]; exact Ar101.1) (State.isArrayOf_alike hZ.alike Ar101.2.1) (g := (mkF m 2 #[.val (.ref t), .val (.int (3 : Int32)), .unset] [(.ref t), (.int (3 : Int32))])) rfl rfl (hb hby own_d11_2) _ k) ?_
  show G (s₁.setTop (mkF m 3 #[.val (.ref t), .val (.int (3 : Int32)), .unset] [(.int cl101.slots.size.toInt32), (.int (3 : Int32))]))
  rw [len_of S101 M101]
  show G (s₁.setTop (mkF m 3 #[.val (.ref t), .val (.int (3 : Int32)), .unset] [(.int (2 : Int32)), (.int (3 : Int32))]))
  refine go _ _ (fun _ k => XS.icmpYes X0.here hx rfl (pc0 := 3) (pc' := 14) rfl (hb hby own_d11_3) rfl (by decide) (by decide) (by decide) k) ?_
  show G (s₁.setTop (mkF m 14 #[.val (.ref t), .val (.int (3 : Int32)), .unset] []))
  refine go _ _ (fun _ k => XS.iloadN X0.here hx rfl (hb hby own_d11_14) rfl k) ?_
  show G (s₁.setTop (mkF m 15 #[.val (.ref t), .val (.int (3 : Int32)), .unset] [(.int (3 : Int32))]))
  obtain ⟨T102, h102, k102, X102, e102, E102, A102, st102⟩ := newP X0 hx hZ (ow hw 60 rfl) e0 (g := (mkF m 15 #[.val (.ref t), .val (.int (3 : Int32)), .unset] [(.int (3 : Int32))])) rfl (hb hby own_d11_15) rfl (by decide) (cap := 3) (by decide) (by decide) (by decide) (by decide)
  obtain ⟨b102, g102⟩ : ∃ z, z = h0.size := ⟨_, rfl⟩
  rw [← g102] at A102 st102
  have V102 : Arv Z h102 b102 k102 .long (3 : Int32) [(.long (0 : Int64)), (.long (0 : Int64)), (.long (0 : Int64))] (.long (0 : Int64)) := (Arv.new A102 (by decide)).pad (pad_rep [] (.long (0 : Int64)) 3)
  refine go _ _ (st102) ?_
  show G (T102.setTop (mkF m 17 #[.val (.ref t), .val (.int (3 : Int32)), .unset] [(.ref b102)]))
  refine go _ _ (fun _ k => XS.astoreN X102.here hx rfl (hb hby own_d11_17) rfl rfl (l' := #[.val (.ref t), .val (.int (3 : Int32)), .val (.ref b102)]) rfl (XS.aloadN X102.here hx rfl (hb hby own_d11_18) rfl rfl (XS.iconst X102.here hx rfl (hb hby own_d11_19) (XS.aloadN X102.here hx rfl (hb hby own_d11_20) rfl rfl (XS.iconst X102.here hx rfl (hb hby own_d11_21) (XS.aloadN X102.here hx rfl (hb hby own_d11_22) rfl rfl k)))))) ?_
  show G (T102.setTop (mkF m 23 #[.val (.ref t), .val (.int (3 : Int32)), .val (.ref b102)] [(.ref t), (.int (0 : Int32)), (.ref b102), (.int (0 : Int32)), (.ref t)]))
  have K104 : Keep h0 h102 [] := (Keep.refl h0 []).ext E102
  have F105 : Arv Z h102 t kw .long (2 : Int32) [(.long w0), (.long w1)] (.long (0 : Int64)) := (At.keep K104 nin0)
  obtain ⟨cl103, Ar103, q103, S103, M103, H103, U103⟩ := id F105
  refine go _ _ (fun _ k => X102.arraylength hx (by rw [e102]; exact Ar103.1) (State.isArrayOf_alike hZ.alike Ar103.2.1) (g := (mkF m 23 #[.val (.ref t), .val (.int (3 : Int32)), .val (.ref b102)] [(.ref t), (.int (0 : Int32)), (.ref b102), (.int (0 : Int32)), (.ref t)])) rfl rfl (hb hby own_d11_23) _ k) ?_
  show G (T102.setTop (mkF m 24 #[.val (.ref t), .val (.int (3 : Int32)), .val (.ref b102)] [(.int cl103.slots.size.toInt32), (.int (0 : Int32)), (.ref b102), (.int (0 : Int32)), (.ref t)]))
  rw [len_of S103 M103]
  show G (T102.setTop (mkF m 24 #[.val (.ref t), .val (.int (3 : Int32)), .val (.ref b102)] [(.int (2 : Int32)), (.int (0 : Int32)), (.ref b102), (.int (0 : Int32)), (.ref t)]))
  refine go _ _ (fun _ k => XS.iloadN X102.here hx rfl (hb hby own_d11_24) rfl k) ?_
  show G (T102.setTop (mkF m 25 #[.val (.ref t), .val (.int (3 : Int32)), .val (.ref b102)] [(.int (3 : Int32)), (.int (2 : Int32)), (.int (0 : Int32)), (.ref b102), (.int (0 : Int32)), (.ref t)]))
  have Z107 : h0.size ≤ h102.size := E102.1
  obtain ⟨rv106, T106, L106, X106, q106, st106⟩ := own_st X102 hx hZ (y := (⟨"java/lang/Math", "min", "(II)I"⟩ : MethodName)) hown (ow hw 50 rfl) (ow hw 51 rfl) (ow hw 44 rfl) (ow hw 52 rfl) (by decide) (own_bkN (W := 4) (rm10 l Z a0 hw nk kk0 O_nk V_nk nw kw0 O_nw V_nw [] (2 : Int32) (3 : Int32) h102 n0 (Nat.le_trans Z0 Z107)) hZ (ow hw 52 rfl) (ow hw 44 rfl) (by decide) (by decide)) e102 (g := (mkF m 25 #[.val (.ref t), .val (.int (3 : Int32)), .val (.ref b102)] [(.int (3 : Int32)), (.int (2 : Int32)), (.int (0 : Int32)), (.ref b102), (.int (0 : Int32)), (.ref t)])) rfl (by rw [hml]; rfl) (argsL := [(.int (2 : Int32)), (.int (3 : Int32))]) (rest := [(.int (0 : Int32)), (.ref b102), (.int (0 : Int32)), (.ref t)]) rfl (lenOf own_pd0 rfl) rfl (by show 2 * 0 + _ ≤ _; exact Nat.le_of_eq rfl) (hb hby own_d11_25) (by decide) (by decide)
  obtain ⟨Nq106, e106, q106⟩ := q106
  have N106 := Fr.app N0 Nq106
  rcases q106 with ⟨rfl, p108⟩ | ⟨rfl, p109⟩
  · exact absurd p108 (by decide)
  · refine go _ _ (st106) ?_
    show G (T106.setTop (mkF m 28 #[.val (.ref t), .val (.int (3 : Int32)), .val (.ref b102)] [(.int (2 : Int32)), (.int (0 : Int32)), (.ref b102), (.int (0 : Int32)), (.ref t)]))
    obtain ⟨T110, h110, L110, X110, e110, N110, Kp110, V110, st110⟩ := cpA X106 hx hZ hown (ow hw 53 rfl) (ow hw 56 rfl) (ow hw 54 rfl) (ow hw 55 rfl) e106 F105 V102 (us := [(.long w0), (.long w1)]) (Or.inl ⟨rfl, rfl⟩) (by decide) (by decide) (by decide) (by decide) (by decide) rfl (Nat.le_of_ble_eq_true rfl) N106 (Nat.le_trans Z0 (Nat.le_of_eq g102.symm)) (g := (mkF m 28 #[.val (.ref t), .val (.int (3 : Int32)), .val (.ref b102)] [(.int (2 : Int32)), (.int (0 : Int32)), (.ref b102), (.int (0 : Int32)), (.ref t)])) rfl (by rw [hml]; rfl) (rest := []) rfl (hb hby own_d11_28) (by decide) (W := 0) (by show 2 * 0 + _ ≤ _; exact Nat.le_of_eq rfl) (by decide)
    have Vq110 : Arv Z h110 b102 k102 .long (3 : Int32) [(.long w0), (.long w1), (.long (0 : Int64))] (.long (0 : Int64)) := V110
    refine go _ _ (st110) ?_
    show G (T110.setTop (mkF m 31 #[.val (.ref t), .val (.int (3 : Int32)), .val (.ref b102)] []))
    refine go _ _ (fun _ k => XS.aloadN X110.here hx rfl (hb hby own_d11_31) rfl rfl k) ?_
    show G (T110.setTop (mkF m 32 #[.val (.ref t), .val (.int (3 : Int32)), .val (.ref b102)] [(.ref b102)]))
    have K111 : Keep h0 h110 [] := K104.trans Kp110 (allS (Or.inr (Nat.le_of_eq g102.symm)) all0)
    refine fin T110 _ _ _ (some (.ref b102)) X110 (fun q => nomatch q) (by decide) (by decide) (by rw [e110]; exact ⟨N110, K111, ⟨b102, k102, rfl, (Nat.le_of_eq g102.symm), Vq110⟩⟩) _ (own_retA X110 hx hret rfl rfl rfl (hb hby own_d11_32))
set_option maxHeartbeats 4000000 in
theorem own_ef_rmBZ2 (m : MethodId) (x0 : Addr) (x1 : Int32) (x2 : Int32) (x3 : Int32) : entryFrame m #[(.ref x0), (.int x1), (.int x2), (.int x3)] 8 = mkF m 0 #[.val (.ref x0), .val (.int x1), .val (.int x2), .val (.int x3), .unset, .unset, .unset, .unset] [] := by rfl
set_option maxRecDepth 65536 in
set_option maxHeartbeats 40000000 in
theorem rmBZ2 (l : Launch) (Z : State) (a0 : Array Value) (hw : ∀ d ∈ tables_1, d.before a0 Z = true) (nk : Addr) (kk0 : ClassId) (O_nk : Sta Z Z.heap "com/example/hatoyama/hatoyama/IndexSet" "NO_KEYS" "[I" (.ref nk)) (V_nk : Arv Z Z.heap nk kk0 .int (0 : Int32) [] (.int (0 : Int32))) (nw : Addr) (kw0 : ClassId) (O_nw : Sta Z Z.heap "com/example/hatoyama/hatoyama/IndexSet" "NO_WORDS" "[J" (.ref nw)) (V_nw : Arv Z Z.heap nw kw0 .long (0 : Int32) [] (.long (0 : Int64))) (ws : List Jvm.Cond) (t : Addr) (q : Int32) (kk : ClassId) (k0 : Int32) (k1 : Int32) (h0 : Heap) (n0 : Nat) (Z0 : n0 ≤ h0.size) (At : Arv Z h0 t kk .int (2 : Int32) [(.int k0), (.int k1)] (.int (0 : Int32))) :
    own_MetN l Z (⟨"java/util/Arrays", "binarySearch0", "([IIII)I"⟩ : MethodName) jdk_65_method_59_code 8 (some .int) ws ({ frames := 0, cells := 0, slots := 0, locals := 0 } : Room) #[(.ref t), (.int (0 : Int32)), (.int (2 : Int32)), (.int q)] h0 (fun v h L => Fr n0 L ∧ h = h0 ∧ (((v = some (.int (-3 : Int32))) ∧ (k1 < q)) ∨ ((v = some (.int (-2 : Int32))) ∧ (k0 < q) ∧ (q < k1)) ∨ ((v = some (.int (1 : Int32))) ∧ (k1 = q)) ∨ ((v = some (.int (-1 : Int32))) ∧ (q < k0)) ∨ ((v = some (.int (0 : Int32))) ∧ (k0 = q)))) := by
  refine own_metN (plainFor_of_name own_pn2) ?_
  intro p e s m below meth c s₁ G hx hby hml hZ hown hnm hret X0 e0 go fin
  have N0 := Fr.nil n0
  refine go _ _ (fun _ k => castTop (own_ef_rmBZ2 m t (0 : Int32) (2 : Int32) q) k) ?_
  show G (s₁.setTop (mkF m 0 #[.val (.ref t), .val (.int (0 : Int32)), .val (.int (2 : Int32)), .val (.int q), .unset, .unset, .unset, .unset] []))
  refine go _ _ (fun _ k => XS.iloadN X0.here hx rfl (hb hby own_d6_0) rfl (XS.istore X0.here hx rfl (hb hby own_d6_1) rfl (l' := #[.val (.ref t), .val (.int (0 : Int32)), .val (.int (2 : Int32)), .val (.int q), .val (.int (0 : Int32)), .unset, .unset, .unset]) rfl (XS.iloadN X0.here hx rfl (hb hby own_d6_3) rfl (XS.iconst X0.here hx rfl (hb hby own_d6_4) (XS.isub X0.here hx rfl (hb hby own_d6_5) rfl (XS.istore X0.here hx rfl (hb hby own_d6_6) rfl (l' := #[.val (.ref t), .val (.int (0 : Int32)), .val (.int (2 : Int32)), .val (.int q), .val (.int (0 : Int32)), .val (.int (1 : Int32)), .unset, .unset]) rfl k)))))) ?_
  show G (s₁.setTop (mkF m 8 #[.val (.ref t), .val (.int (0 : Int32)), .val (.int (2 : Int32)), .val (.int q), .val (.int (0 : Int32)), .val (.int (1 : Int32)), .unset, .unset] []))
  refine go _ _ (fun _ k => XS.iload X0.here hx rfl (hb hby own_d6_8) rfl (XS.iload X0.here hx rfl (hb hby own_d6_10) rfl k)) ?_
  show G (s₁.setTop (mkF m 12 #[.val (.ref t), .val (.int (0 : Int32)), .val (.int (2 : Int32)), .val (.int q), .val (.int (0 : Int32)), .val (.int (1 : Int32)), .unset, .unset] [(.int (1 : Int32)), (.int (0 : Int32))]))
  refine go _ _ (fun _ k => XS.icmpNo X0.here hx rfl (hb hby own_d6_12) rfl (by decide) k) ?_
  show G (s₁.setTop (mkF m 15 #[.val (.ref t), .val (.int (0 : Int32)), .val (.int (2 : Int32)), .val (.int q), .val (.int (0 : Int32)), .val (.int (1 : Int32)), .unset, .unset] []))
  refine go _ _ (fun _ k => XS.iload X0.here hx rfl (hb hby own_d6_15) rfl (XS.iload X0.here hx rfl (hb hby own_d6_17) rfl (XS.iadd X0.here hx rfl (hb hby own_d6_19) rfl (XS.iconst X0.here hx rfl (hb hby own_d6_20) (XS.iushr X0.here hx rfl (hb hby own_d6_21) rfl (XS.istore X0.here hx rfl (hb hby own_d6_22) rfl (l' := #[.val (.ref t), .val (.int (0 : Int32)), .val (.int (2 : Int32)), .val (.int q), .val (.int (0 : Int32)), .val (.int (1 : Int32)), .val (.int (0 : Int32)), .unset]) rfl k)))))) ?_
  show G (s₁.setTop (mkF m 24 #[.val (.ref t), .val (.int (0 : Int32)), .val (.int (2 : Int32)), .val (.int q), .val (.int (0 : Int32)), .val (.int (1 : Int32)), .val (.int (0 : Int32)), .unset] []))
  refine go _ _ (fun _ k => XS.aloadN X0.here hx rfl (hb hby own_d6_24) rfl rfl (XS.iload X0.here hx rfl (hb hby own_d6_25) rfl k)) ?_
  show G (s₁.setTop (mkF m 27 #[.val (.ref t), .val (.int (0 : Int32)), .val (.int (2 : Int32)), .val (.int q), .val (.int (0 : Int32)), .val (.int (1 : Int32)), .val (.int (0 : Int32)), .unset] [(.int (0 : Int32)), (.ref t)]))
  obtain ⟨cl101, Ar101, q101, S101, M101, H101, U101⟩ := id At
  refine go _ _ (fun _ k => X0.iaload hx (j := (0 : Int32)) (v := (.int k0)) (by rw [e0]; exact Ar101.1) (State.isArrayOf_alike hZ.alike Ar101.2.1) Ar101.2.2 (inb_of S101 ⟨by decide, by decide⟩) (Has.at H101 (inb_of S101 ⟨by decide, by decide⟩) rfl) (g := (mkF m 27 #[.val (.ref t), .val (.int (0 : Int32)), .val (.int (2 : Int32)), .val (.int q), .val (.int (0 : Int32)), .val (.int (1 : Int32)), .val (.int (0 : Int32)), .unset] [(.int (0 : Int32)), (.ref t)])) rfl rfl (hb hby own_d6_27) _ k) ?_
  show G (s₁.setTop (mkF m 28 #[.val (.ref t), .val (.int (0 : Int32)), .val (.int (2 : Int32)), .val (.int q), .val (.int (0 : Int32)), .val (.int (1 : Int32)), .val (.int (0 : Int32)), .unset] [(.int k0)]))
  refine go _ _ (fun _ k => XS.istore X0.here hx rfl (hb hby own_d6_28) rfl (l' := #[.val (.ref t), .val (.int (0 : Int32)), .val (.int (2 : Int32)), .val (.int q), .val (.int (0 : Int32)), .val (.int (1 : Int32)), .val (.int (0 : Int32)), .val (.int k0)]) rfl (XS.iload X0.here hx rfl (hb hby own_d6_30) rfl (XS.iloadN X0.here hx rfl (hb hby own_d6_32) rfl k))) ?_
  show G (s₁.setTop (mkF m 33 #[.val (.ref t), .val (.int (0 : Int32)), .val (.int (2 : Int32)), .val (.int q), .val (.int (0 : Int32)), .val (.int (1 : Int32)), .val (.int (0 : Int32)), .val (.int k0)] [(.int q), (.int k0)]))
  by_cases hc33_102 : k0 < q
  · refine go _ _ (fun _ k => XS.icmpNo X0.here hx rfl (hb hby own_d6_33) rfl (tlt hc33_102).2.1 k) ?_
    show G (s₁.setTop (mkF m 36 #[.val (.ref t), .val (.int (0 : Int32)), .val (.int (2 : Int32)), .val (.int q), .val (.int (0 : Int32)), .val (.int (1 : Int32)), .val (.int (0 : Int32)), .val (.int k0)] []))
    refine go _ _ (fun _ k => XS.iload X0.here hx rfl (hb hby own_d6_36) rfl (XS.iconst X0.here hx rfl (hb hby own_d6_38) (XS.iadd X0.here hx rfl (hb hby own_d6_39) rfl (XS.istore X0.here hx rfl (hb hby own_d6_40) rfl (l' := #[.val (.ref t), .val (.int (0 : Int32)), .val (.int (2 : Int32)), .val (.int q), .val (.int (1 : Int32)), .val (.int (1 : Int32)), .val (.int (0 : Int32)), .val (.int k0)]) rfl k)))) ?_
    show G (s₁.setTop (mkF m 42 #[.val (.ref t), .val (.int (0 : Int32)), .val (.int (2 : Int32)), .val (.int q), .val (.int (1 : Int32)), .val (.int (1 : Int32)), .val (.int (0 : Int32)), .val (.int k0)] []))
    refine go _ _ (fun _ k => XS.goto X0.here hx rfl (pc0 := 42) (pc' := 63) rfl (hb hby own_d6_42) (by decide) (by decide) k) ?_
    show G (s₁.setTop (mkF m 63 #[.val (.ref t), .val (.int (0 : Int32)), .val (.int (2 : Int32)), .val (.int q), .val (.int (1 : Int32)), .val (.int (1 : Int32)), .val (.int (0 : Int32)), .val (.int k0)] []))
    refine go _ _ (fun _ k => XS.goto X0.here hx rfl (pc0 := 63) (pc' := 8) rfl (hb hby own_d6_63) (by decide) (by decide) k) ?_
    show G (s₁.setTop (mkF m 8 #[.val (.ref t), .val (.int (0 : Int32)), .val (.int (2 : Int32)), .val (.int q), .val (.int (1 : Int32)), .val (.int (1 : Int32)), .val (.int (0 : Int32)), .val (.int k0)] []))
    refine go _ _ (fun _ k => XS.iload X0.here hx rfl (hb hby own_d6_8) rfl (XS.iload X0.here hx rfl (hb hby own_d6_10) rfl k)) ?_
    show G (s₁.setTop (mkF m 12 #[.val (.ref t), .val (.int (0 : Int32)), .val (.int (2 : Int32)), .val (.int q), .val (.int (1 : Int32)), .val (.int (1 : Int32)), .val (.int (0 : Int32)), .val (.int k0)] [(.int (1 : Int32)), (.int (1 : Int32))]))
    refine go _ _ (fun _ k => XS.icmpNo X0.here hx rfl (hb hby own_d6_12) rfl (by decide) k) ?_
    show G (s₁.setTop (mkF m 15 #[.val (.ref t), .val (.int (0 : Int32)), .val (.int (2 : Int32)), .val (.int q), .val (.int (1 : Int32)), .val (.int (1 : Int32)), .val (.int (0 : Int32)), .val (.int k0)] []))
    refine go _ _ (fun _ k => XS.iload X0.here hx rfl (hb hby own_d6_15) rfl (XS.iload X0.here hx rfl (hb hby own_d6_17) rfl (XS.iadd X0.here hx rfl (hb hby own_d6_19) rfl (XS.iconst X0.here hx rfl (hb hby own_d6_20) (XS.iushr X0.here hx rfl (hb hby own_d6_21) rfl (XS.istore X0.here hx rfl (hb hby own_d6_22) rfl (l' := #[.val (.ref t), .val (.int (0 : Int32)), .val (.int (2 : Int32)), .val (.int q), .val (.int (1 : Int32)), .val (.int (1 : Int32)), .val (.int (1 : Int32)), .val (.int k0)]) rfl k)))))) ?_
    show G (s₁.setTop (mkF m 24 #[.val (.ref t), .val (.int (0 : Int32)), .val (.int (2 : Int32)), .val (.int q), .val (.int (1 : Int32)), .val (.int (1 : Int32)), .val (.int (1 : Int32)), .val (.int k0)] []))
    refine go _ _ (fun _ k => XS.aloadN X0.here hx rfl (hb hby own_d6_24) rfl rfl (XS.iload X0.here hx rfl (hb hby own_d6_25) rfl k)) ?_
    show G (s₁.setTop (mkF m 27 #[.val (.ref t), .val (.int (0 : Int32)), .val (.int (2 : Int32)), .val (.int q), .val (.int (1 : Int32)), .val (.int (1 : Int32)), .val (.int (1 : Int32)), .val (.int k0)] [(.int (1 : Int32)), (.ref t)]))
    obtain ⟨cl103, Ar103, q103, S103, M103, H103, U103⟩ := id At
    refine go _ _ (fun _ k => X0.iaload hx (j := (1 : Int32)) (v := (.int k1)) (by rw [e0]; exact Ar103.1) (State.isArrayOf_alike hZ.alike Ar103.2.1) Ar103.2.2 (inb_of S103 ⟨by decide, by decide⟩) (Has.at H103 (inb_of S103 ⟨by decide, by decide⟩) rfl) (g := (mkF m 27 #[.val (.ref t), .val (.int (0 : Int32)), .val (.int (2 : Int32)), .val (.int q), .val (.int (1 : Int32)), .val (.int (1 : Int32)), .val (.int (1 : Int32)), .val (.int k0)] [(.int (1 : Int32)), (.ref t)])) rfl rfl (hb hby own_d6_27) _ k) ?_
    show G (s₁.setTop (mkF m 28 #[.val (.ref t), .val (.int (0 : Int32)), .val (.int (2 : Int32)), .val (.int q), .val (.int (1 : Int32)), .val (.int (1 : Int32)), .val (.int (1 : Int32)), .val (.int k0)] [(.int k1)]))
    refine go _ _ (fun _ k => XS.istore X0.here hx rfl (hb hby own_d6_28) rfl (l' := #[.val (.ref t), .val (.int (0 : Int32)), .val (.int (2 : Int32)), .val (.int q), .val (.int (1 : Int32)), .val (.int (1 : Int32)), .val (.int (1 : Int32)), .val (.int k1)]) rfl (XS.iload X0.here hx rfl (hb hby own_d6_30) rfl (XS.iloadN X0.here hx rfl (hb hby own_d6_32) rfl k))) ?_
    show G (s₁.setTop (mkF m 33 #[.val (.ref t), .val (.int (0 : Int32)), .val (.int (2 : Int32)), .val (.int q), .val (.int (1 : Int32)), .val (.int (1 : Int32)), .val (.int (1 : Int32)), .val (.int k1)] [(.int q), (.int k1)]))
    by_cases hc33_104 : k1 < q
    · refine go _ _ (fun _ k => XS.icmpNo X0.here hx rfl (hb hby own_d6_33) rfl (tlt hc33_104).2.1 k) ?_
      show G (s₁.setTop (mkF m 36 #[.val (.ref t), .val (.int (0 : Int32)), .val (.int (2 : Int32)), .val (.int q), .val (.int (1 : Int32)), .val (.int (1 : Int32)), .val (.int (1 : Int32)), .val (.int k1)] []))
      refine go _ _ (fun _ k => XS.iload X0.here hx rfl (hb hby own_d6_36) rfl (XS.iconst X0.here hx rfl (hb hby own_d6_38) (XS.iadd X0.here hx rfl (hb hby own_d6_39) rfl (XS.istore X0.here hx rfl (hb hby own_d6_40) rfl (l' := #[.val (.ref t), .val (.int (0 : Int32)), .val (.int (2 : Int32)), .val (.int q), .val (.int (2 : Int32)), .val (.int (1 : Int32)), .val (.int (1 : Int32)), .val (.int k1)]) rfl k)))) ?_
      show G (s₁.setTop (mkF m 42 #[.val (.ref t), .val (.int (0 : Int32)), .val (.int (2 : Int32)), .val (.int q), .val (.int (2 : Int32)), .val (.int (1 : Int32)), .val (.int (1 : Int32)), .val (.int k1)] []))
      refine go _ _ (fun _ k => XS.goto X0.here hx rfl (pc0 := 42) (pc' := 63) rfl (hb hby own_d6_42) (by decide) (by decide) k) ?_
      show G (s₁.setTop (mkF m 63 #[.val (.ref t), .val (.int (0 : Int32)), .val (.int (2 : Int32)), .val (.int q), .val (.int (2 : Int32)), .val (.int (1 : Int32)), .val (.int (1 : Int32)), .val (.int k1)] []))
      refine go _ _ (fun _ k => XS.goto X0.here hx rfl (pc0 := 63) (pc' := 8) rfl (hb hby own_d6_63) (by decide) (by decide) k) ?_
      show G (s₁.setTop (mkF m 8 #[.val (.ref t), .val (.int (0 : Int32)), .val (.int (2 : Int32)), .val (.int q), .val (.int (2 : Int32)), .val (.int (1 : Int32)), .val (.int (1 : Int32)), .val (.int k1)] []))
      refine go _ _ (fun _ k => XS.iload X0.here hx rfl (hb hby own_d6_8) rfl (XS.iload X0.here hx rfl (hb hby own_d6_10) rfl k)) ?_
      show G (s₁.setTop (mkF m 12 #[.val (.ref t), .val (.int (0 : Int32)), .val (.int (2 : Int32)), .val (.int q), .val (.int (2 : Int32)), .val (.int (1 : Int32)), .val (.int (1 : Int32)), .val (.int k1)] [(.int (1 : Int32)), (.int (2 : Int32))]))
      refine go _ _ (fun _ k => XS.icmpYes X0.here hx rfl (pc0 := 12) (pc' := 66) rfl (hb hby own_d6_12) rfl (by decide) (by decide) (by decide) k) ?_
      show G (s₁.setTop (mkF m 66 #[.val (.ref t), .val (.int (0 : Int32)), .val (.int (2 : Int32)), .val (.int q), .val (.int (2 : Int32)), .val (.int (1 : Int32)), .val (.int (1 : Int32)), .val (.int k1)] []))
      refine go _ _ (fun _ k => XS.iload X0.here hx rfl (hb hby own_d6_66) rfl (XS.iconst X0.here hx rfl (hb hby own_d6_68) (XS.iadd X0.here hx rfl (hb hby own_d6_69) rfl (XS.ineg X0.here hx rfl (hb hby own_d6_70) rfl k)))) ?_
      show G (s₁.setTop (mkF m 71 #[.val (.ref t), .val (.int (0 : Int32)), .val (.int (2 : Int32)), .val (.int q), .val (.int (2 : Int32)), .val (.int (1 : Int32)), .val (.int (1 : Int32)), .val (.int k1)] [(.int (-3 : Int32))]))
      refine fin s₁ _ _ _ (some (.int (-3 : Int32))) X0 (fun q => nomatch q) (by decide) (by decide) (by rw [e0]; exact ⟨N0, rfl, (Or.inl ⟨rfl, hc33_104⟩)⟩) _ (own_retI X0 hx hret (hb hby own_d6_71))
    · refine go _ _ (fun _ k => XS.icmpYes X0.here hx rfl (pc0 := 33) (pc' := 45) rfl (hb hby own_d6_33) rfl (flt hc33_104).2.1 (by decide) (by decide) k) ?_
      show G (s₁.setTop (mkF m 45 #[.val (.ref t), .val (.int (0 : Int32)), .val (.int (2 : Int32)), .val (.int q), .val (.int (1 : Int32)), .val (.int (1 : Int32)), .val (.int (1 : Int32)), .val (.int k1)] []))
      refine go _ _ (fun _ k => XS.iload X0.here hx rfl (hb hby own_d6_45) rfl (XS.iloadN X0.here hx rfl (hb hby own_d6_47) rfl k)) ?_
      show G (s₁.setTop (mkF m 48 #[.val (.ref t), .val (.int (0 : Int32)), .val (.int (2 : Int32)), .val (.int q), .val (.int (1 : Int32)), .val (.int (1 : Int32)), .val (.int (1 : Int32)), .val (.int k1)] [(.int q), (.int k1)]))
      by_cases hc48_105 : q < k1
      · refine go _ _ (fun _ k => XS.icmpNo X0.here hx rfl (hb hby own_d6_48) rfl (tlt hc48_105).2.2.2 k) ?_
        show G (s₁.setTop (mkF m 51 #[.val (.ref t), .val (.int (0 : Int32)), .val (.int (2 : Int32)), .val (.int q), .val (.int (1 : Int32)), .val (.int (1 : Int32)), .val (.int (1 : Int32)), .val (.int k1)] []))
        refine go _ _ (fun _ k => XS.iload X0.here hx rfl (hb hby own_d6_51) rfl (XS.iconst X0.here hx rfl (hb hby own_d6_53) (XS.isub X0.here hx rfl (hb hby own_d6_54) rfl (XS.istore X0.here hx rfl (hb hby own_d6_55) rfl (l' := #[.val (.ref t), .val (.int (0 : Int32)), .val (.int (2 : Int32)), .val (.int q), .val (.int (1 : Int32)), .val (.int (0 : Int32)), .val (.int (1 : Int32)), .val (.int k1)]) rfl k)))) ?_
        show G (s₁.setTop (mkF m 57 #[.val (.ref t), .val (.int (0 : Int32)), .val (.int (2 : Int32)), .val (.int q), .val (.int (1 : Int32)), .val (.int (0 : Int32)), .val (.int (1 : Int32)), .val (.int k1)] []))
        refine go _ _ (fun _ k => XS.goto X0.here hx rfl (pc0 := 57) (pc' := 63) rfl (hb hby own_d6_57) (by decide) (by decide) k) ?_
        show G (s₁.setTop (mkF m 63 #[.val (.ref t), .val (.int (0 : Int32)), .val (.int (2 : Int32)), .val (.int q), .val (.int (1 : Int32)), .val (.int (0 : Int32)), .val (.int (1 : Int32)), .val (.int k1)] []))
        refine go _ _ (fun _ k => XS.goto X0.here hx rfl (pc0 := 63) (pc' := 8) rfl (hb hby own_d6_63) (by decide) (by decide) k) ?_
        show G (s₁.setTop (mkF m 8 #[.val (.ref t), .val (.int (0 : Int32)), .val (.int (2 : Int32)), .val (.int q), .val (.int (1 : Int32)), .val (.int (0 : Int32)), .val (.int (1 : Int32)), .val (.int k1)] []))
        refine go _ _ (fun _ k => XS.iload X0.here hx rfl (hb hby own_d6_8) rfl (XS.iload X0.here hx rfl (hb hby own_d6_10) rfl k)) ?_
        show G (s₁.setTop (mkF m 12 #[.val (.ref t), .val (.int (0 : Int32)), .val (.int (2 : Int32)), .val (.int q), .val (.int (1 : Int32)), .val (.int (0 : Int32)), .val (.int (1 : Int32)), .val (.int k1)] [(.int (0 : Int32)), (.int (1 : Int32))]))
        refine go _ _ (fun _ k => XS.icmpYes X0.here hx rfl (pc0 := 12) (pc' := 66) rfl (hb hby own_d6_12) rfl (by decide) (by decide) (by decide) k) ?_
        show G (s₁.setTop (mkF m 66 #[.val (.ref t), .val (.int (0 : Int32)), .val (.int (2 : Int32)), .val (.int q), .val (.int (1 : Int32)), .val (.int (0 : Int32)), .val (.int (1 : Int32)), .val (.int k1)] []))
        refine go _ _ (fun _ k => XS.iload X0.here hx rfl (hb hby own_d6_66) rfl (XS.iconst X0.here hx rfl (hb hby own_d6_68) (XS.iadd X0.here hx rfl (hb hby own_d6_69) rfl (XS.ineg X0.here hx rfl (hb hby own_d6_70) rfl k)))) ?_
        show G (s₁.setTop (mkF m 71 #[.val (.ref t), .val (.int (0 : Int32)), .val (.int (2 : Int32)), .val (.int q), .val (.int (1 : Int32)), .val (.int (0 : Int32)), .val (.int (1 : Int32)), .val (.int k1)] [(.int (-2 : Int32))]))
        refine fin s₁ _ _ _ (some (.int (-2 : Int32))) X0 (fun q => nomatch q) (by decide) (by decide) (by rw [e0]; exact ⟨N0, rfl, (Or.inr (Or.inl ⟨rfl, hc33_102, hc48_105⟩))⟩) _ (own_retI X0 hx hret (hb hby own_d6_71))
      · refine go _ _ (fun _ k => XS.icmpYes X0.here hx rfl (pc0 := 48) (pc' := 60) rfl (hb hby own_d6_48) rfl (flt hc48_105).2.2.2 (by decide) (by decide) k) ?_
        show G (s₁.setTop (mkF m 60 #[.val (.ref t), .val (.int (0 : Int32)), .val (.int (2 : Int32)), .val (.int q), .val (.int (1 : Int32)), .val (.int (1 : Int32)), .val (.int (1 : Int32)), .val (.int k1)] []))
        refine go _ _ (fun _ k => XS.iload X0.here hx rfl (hb hby own_d6_60) rfl k) ?_
        show G (s₁.setTop (mkF m 62 #[.val (.ref t), .val (.int (0 : Int32)), .val (.int (2 : Int32)), .val (.int q), .val (.int (1 : Int32)), .val (.int (1 : Int32)), .val (.int (1 : Int32)), .val (.int k1)] [(.int (1 : Int32))]))
        refine fin s₁ _ _ _ (some (.int (1 : Int32))) X0 (fun q => nomatch q) (by decide) (by decide) (by rw [e0]; exact ⟨N0, rfl, (Or.inr (Or.inr (Or.inl ⟨rfl, (own_ee hc33_104 hc48_105)⟩)))⟩) _ (own_retI X0 hx hret (hb hby own_d6_62))
  · refine go _ _ (fun _ k => XS.icmpYes X0.here hx rfl (pc0 := 33) (pc' := 45) rfl (hb hby own_d6_33) rfl (flt hc33_102).2.1 (by decide) (by decide) k) ?_
    show G (s₁.setTop (mkF m 45 #[.val (.ref t), .val (.int (0 : Int32)), .val (.int (2 : Int32)), .val (.int q), .val (.int (0 : Int32)), .val (.int (1 : Int32)), .val (.int (0 : Int32)), .val (.int k0)] []))
    refine go _ _ (fun _ k => XS.iload X0.here hx rfl (hb hby own_d6_45) rfl (XS.iloadN X0.here hx rfl (hb hby own_d6_47) rfl k)) ?_
    show G (s₁.setTop (mkF m 48 #[.val (.ref t), .val (.int (0 : Int32)), .val (.int (2 : Int32)), .val (.int q), .val (.int (0 : Int32)), .val (.int (1 : Int32)), .val (.int (0 : Int32)), .val (.int k0)] [(.int q), (.int k0)]))
    by_cases hc48_106 : q < k0
    · refine go _ _ (fun _ k => XS.icmpNo X0.here hx rfl (hb hby own_d6_48) rfl (tlt hc48_106).2.2.2 k) ?_
      show G (s₁.setTop (mkF m 51 #[.val (.ref t), .val (.int (0 : Int32)), .val (.int (2 : Int32)), .val (.int q), .val (.int (0 : Int32)), .val (.int (1 : Int32)), .val (.int (0 : Int32)), .val (.int k0)] []))
      refine go _ _ (fun _ k => XS.iload X0.here hx rfl (hb hby own_d6_51) rfl (XS.iconst X0.here hx rfl (hb hby own_d6_53) (XS.isub X0.here hx rfl (hb hby own_d6_54) rfl (XS.istore X0.here hx rfl (hb hby own_d6_55) rfl (l' := #[.val (.ref t), .val (.int (0 : Int32)), .val (.int (2 : Int32)), .val (.int q), .val (.int (0 : Int32)), .val (.int (-1 : Int32)), .val (.int (0 : Int32)), .val (.int k0)]) rfl k)))) ?_
      show G (s₁.setTop (mkF m 57 #[.val (.ref t), .val (.int (0 : Int32)), .val (.int (2 : Int32)), .val (.int q), .val (.int (0 : Int32)), .val (.int (-1 : Int32)), .val (.int (0 : Int32)), .val (.int k0)] []))
      refine go _ _ (fun _ k => XS.goto X0.here hx rfl (pc0 := 57) (pc' := 63) rfl (hb hby own_d6_57) (by decide) (by decide) k) ?_
      show G (s₁.setTop (mkF m 63 #[.val (.ref t), .val (.int (0 : Int32)), .val (.int (2 : Int32)), .val (.int q), .val (.int (0 : Int32)), .val (.int (-1 : Int32)), .val (.int (0 : Int32)), .val (.int k0)] []))
      refine go _ _ (fun _ k => XS.goto X0.here hx rfl (pc0 := 63) (pc' := 8) rfl (hb hby own_d6_63) (by decide) (by decide) k) ?_
      show G (s₁.setTop (mkF m 8 #[.val (.ref t), .val (.int (0 : Int32)), .val (.int (2 : Int32)), .val (.int q), .val (.int (0 : Int32)), .val (.int (-1 : Int32)), .val (.int (0 : Int32)), .val (.int k0)] []))
      refine go _ _ (fun _ k => XS.iload X0.here hx rfl (hb hby own_d6_8) rfl (XS.iload X0.here hx rfl (hb hby own_d6_10) rfl k)) ?_
      show G (s₁.setTop (mkF m 12 #[.val (.ref t), .val (.int (0 : Int32)), .val (.int (2 : Int32)), .val (.int q), .val (.int (0 : Int32)), .val (.int (-1 : Int32)), .val (.int (0 : Int32)), .val (.int k0)] [(.int (-1 : Int32)), (.int (0 : Int32))]))
      refine go _ _ (fun _ k => XS.icmpYes X0.here hx rfl (pc0 := 12) (pc' := 66) rfl (hb hby own_d6_12) rfl (by decide) (by decide) (by decide) k) ?_
      show G (s₁.setTop (mkF m 66 #[.val (.ref t), .val (.int (0 : Int32)), .val (.int (2 : Int32)), .val (.int q), .val (.int (0 : Int32)), .val (.int (-1 : Int32)), .val (.int (0 : Int32)), .val (.int k0)] []))
      refine go _ _ (fun _ k => XS.iload X0.here hx rfl (hb hby own_d6_66) rfl (XS.iconst X0.here hx rfl (hb hby own_d6_68) (XS.iadd X0.here hx rfl (hb hby own_d6_69) rfl (XS.ineg X0.here hx rfl (hb hby own_d6_70) rfl k)))) ?_
      show G (s₁.setTop (mkF m 71 #[.val (.ref t), .val (.int (0 : Int32)), .val (.int (2 : Int32)), .val (.int q), .val (.int (0 : Int32)), .val (.int (-1 : Int32)), .val (.int (0 : Int32)), .val (.int k0)] [(.int (-1 : Int32))]))
      refine fin s₁ _ _ _ (some (.int (-1 : Int32))) X0 (fun q => nomatch q) (by decide) (by decide) (by rw [e0]; exact ⟨N0, rfl, (Or.inr (Or.inr (Or.inr (Or.inl ⟨rfl, hc48_106⟩))))⟩) _ (own_retI X0 hx hret (hb hby own_d6_71))
    · refine go _ _ (fun _ k => XS.icmpYes X0.here hx rfl (pc0 := 48) (pc' := 60) rfl (hb hby own_d6_48) rfl (flt hc48_106).2.2.2 (by decide) (by decide) k) ?_
      show G (s₁.setTop (mkF m 60 #[.val (.ref t), .val (.int (0 : Int32)), .val (.int (2 : Int32)), .val (.int q), .val (.int (0 : Int32)), .val (.int (1 : Int32)), .val (.int (0 : Int32)), .val (.int k0)] []))
      refine go _ _ (fun _ k => XS.iload X0.here hx rfl (hb hby own_d6_60) rfl k) ?_
      show G (s₁.setTop (mkF m 62 #[.val (.ref t), .val (.int (0 : Int32)), .val (.int (2 : Int32)), .val (.int q), .val (.int (0 : Int32)), .val (.int (1 : Int32)), .val (.int (0 : Int32)), .val (.int k0)] [(.int (0 : Int32))]))
      refine fin s₁ _ _ _ (some (.int (0 : Int32))) X0 (fun q => nomatch q) (by decide) (by decide) (by rw [e0]; exact ⟨N0, rfl, (Or.inr (Or.inr (Or.inr (Or.inr ⟨rfl, (own_ee hc33_102 hc48_106)⟩))))⟩) _ (own_retI X0 hx hret (hb hby own_d6_62))
set_option maxHeartbeats 4000000 in
theorem own_ef_rmRC2 (m : MethodId) (x0 : Int32) (x1 : Int32) (x2 : Int32) : entryFrame m #[(.int x0), (.int x1), (.int x2)] 3 = mkF m 0 #[.val (.int x0), .val (.int x1), .val (.int x2)] [] := by rfl
set_option maxRecDepth 65536 in
set_option maxHeartbeats 40000000 in
theorem rmRC2 (l : Launch) (Z : State) (a0 : Array Value) (hw : ∀ d ∈ tables_1, d.before a0 Z = true) (nk : Addr) (kk0 : ClassId) (O_nk : Sta Z Z.heap "com/example/hatoyama/hatoyama/IndexSet" "NO_KEYS" "[I" (.ref nk)) (V_nk : Arv Z Z.heap nk kk0 .int (0 : Int32) [] (.int (0 : Int32))) (nw : Addr) (kw0 : ClassId) (O_nw : Sta Z Z.heap "com/example/hatoyama/hatoyama/IndexSet" "NO_WORDS" "[J" (.ref nw)) (V_nw : Arv Z Z.heap nw kw0 .long (0 : Int32) [] (.long (0 : Int64))) (ws : List Jvm.Cond) (h0 : Heap) (n0 : Nat) (Z0 : n0 ≤ h0.size) :
    own_MetN l Z (⟨"java/util/Arrays", "rangeCheck", "(III)V"⟩ : MethodName) jdk_65_method_30_code 3 none ws ({ frames := 0, cells := 0, slots := 0, locals := 0 } : Room) #[(.int (2 : Int32)), (.int (0 : Int32)), (.int (2 : Int32))] h0 (fun v h L => Fr n0 L ∧ h = h0 ∧ (((v = none)))) := by
  refine own_metN (plainFor_of_name own_pn2) ?_
  intro p e s m below meth c s₁ G hx hby hml hZ hown hnm hret X0 e0 go fin
  have N0 := Fr.nil n0
  refine go _ _ (fun _ k => castTop (own_ef_rmRC2 m (2 : Int32) (0 : Int32) (2 : Int32)) k) ?_
  show G (s₁.setTop (mkF m 0 #[.val (.int (2 : Int32)), .val (.int (0 : Int32)), .val (.int (2 : Int32))] []))
  refine go _ _ (fun _ k => XS.iloadN X0.here hx rfl (hb hby own_d5_0) rfl (XS.iloadN X0.here hx rfl (hb hby own_d5_1) rfl k)) ?_
  show G (s₁.setTop (mkF m 2 #[.val (.int (2 : Int32)), .val (.int (0 : Int32)), .val (.int (2 : Int32))] [(.int (2 : Int32)), (.int (0 : Int32))]))
  refine go _ _ (fun _ k => XS.icmpYes X0.here hx rfl (pc0 := 2) (pc' := 46) rfl (hb hby own_d5_2) rfl (by decide) (by decide) (by decide) k) ?_
  show G (s₁.setTop (mkF m 46 #[.val (.int (2 : Int32)), .val (.int (0 : Int32)), .val (.int (2 : Int32))] []))
  refine go _ _ (fun _ k => XS.iloadN X0.here hx rfl (hb hby own_d5_46) rfl k) ?_
  show G (s₁.setTop (mkF m 47 #[.val (.int (2 : Int32)), .val (.int (0 : Int32)), .val (.int (2 : Int32))] [(.int (0 : Int32))]))
  refine go _ _ (fun _ k => XS.ifYes X0.here hx rfl (pc0 := 47) (pc' := 59) rfl (hb hby own_d5_47) rfl (by decide) (by decide) (by decide) k) ?_
  show G (s₁.setTop (mkF m 59 #[.val (.int (2 : Int32)), .val (.int (0 : Int32)), .val (.int (2 : Int32))] []))
  refine go _ _ (fun _ k => XS.iloadN X0.here hx rfl (hb hby own_d5_59) rfl (XS.iloadN X0.here hx rfl (hb hby own_d5_60) rfl k)) ?_
  show G (s₁.setTop (mkF m 61 #[.val (.int (2 : Int32)), .val (.int (0 : Int32)), .val (.int (2 : Int32))] [(.int (2 : Int32)), (.int (2 : Int32))]))
  refine go _ _ (fun _ k => XS.icmpYes X0.here hx rfl (pc0 := 61) (pc' := 73) rfl (hb hby own_d5_61) rfl (by decide) (by decide) (by decide) k) ?_
  show G (s₁.setTop (mkF m 73 #[.val (.int (2 : Int32)), .val (.int (0 : Int32)), .val (.int (2 : Int32))] []))
  refine fin s₁ _ _ _ none X0 (fun _ => rfl) (by decide) (by decide) (by rw [e0]; exact ⟨N0, rfl, rfl⟩) _ (own_retV X0 hx hret (hb hby own_d5_73))
set_option maxHeartbeats 4000000 in
theorem own_ef_rmBS2 (m : MethodId) (x0 : Addr) (x1 : Int32) (x2 : Int32) (x3 : Int32) : entryFrame m #[(.ref x0), (.int x1), (.int x2), (.int x3)] 4 = mkF m 0 #[.val (.ref x0), .val (.int x1), .val (.int x2), .val (.int x3)] [] := by rfl
set_option maxRecDepth 65536 in
set_option maxHeartbeats 40000000 in
theorem rmBS2 (l : Launch) (Z : State) (a0 : Array Value) (hw : ∀ d ∈ tables_1, d.before a0 Z = true) (nk : Addr) (kk0 : ClassId) (O_nk : Sta Z Z.heap "com/example/hatoyama/hatoyama/IndexSet" "NO_KEYS" "[I" (.ref nk)) (V_nk : Arv Z Z.heap nk kk0 .int (0 : Int32) [] (.int (0 : Int32))) (nw : Addr) (kw0 : ClassId) (O_nw : Sta Z Z.heap "com/example/hatoyama/hatoyama/IndexSet" "NO_WORDS" "[J" (.ref nw)) (V_nw : Arv Z Z.heap nw kw0 .long (0 : Int32) [] (.long (0 : Int64))) (ws : List Jvm.Cond) (t : Addr) (q : Int32) (kk : ClassId) (k0 : Int32) (k1 : Int32) (h0 : Heap) (n0 : Nat) (Z0 : n0 ≤ h0.size) (At : Arv Z h0 t kk .int (2 : Int32) [(.int k0), (.int k1)] (.int (0 : Int32))) :
    own_MetN l Z (⟨"java/util/Arrays", "binarySearch", "([IIII)I"⟩ : MethodName) jdk_65_method_58_code 4 (some .int) ws ({ frames := 1, cells := 0, slots := 0, locals := 19 } : Room) #[(.ref t), (.int (0 : Int32)), (.int (2 : Int32)), (.int q)] h0 (fun v h L => Fr n0 L ∧ h = h0 ∧ (((v = some (.int (-3 : Int32))) ∧ (k1 < q)) ∨ ((v = some (.int (-2 : Int32))) ∧ (k0 < q) ∧ (q < k1)) ∨ ((v = some (.int (1 : Int32))) ∧ (k1 = q)) ∨ ((v = some (.int (-1 : Int32))) ∧ (q < k0)) ∨ ((v = some (.int (0 : Int32))) ∧ (k0 = q)))) := by
  refine own_metN (plainFor_of_name own_pn2) ?_
  intro p e s m below meth c s₁ G hx hby hml hZ hown hnm hret X0 e0 go fin
  have N0 := Fr.nil n0
  refine go _ _ (fun _ k => castTop (own_ef_rmBS2 m t (0 : Int32) (2 : Int32) q) k) ?_
  show G (s₁.setTop (mkF m 0 #[.val (.ref t), .val (.int (0 : Int32)), .val (.int (2 : Int32)), .val (.int q)] []))
  refine go _ _ (fun _ k => XS.aloadN X0.here hx rfl (hb hby own_d4_0) rfl rfl k) ?_
  show G (s₁.setTop (mkF m 1 #[.val (.ref t), .val (.int (0 : Int32)), .val (.int (2 : Int32)), .val (.int q)] [(.ref t)]))
  obtain ⟨cl101, Ar101, q101, S101, M101, H101, U101⟩ := id At
  refine go _ _ (fun _ k => X0.arraylength hx (by rw [e0]; exact Ar101.1) (State.isArrayOf_alike hZ.alike Ar101.2.1) (g := (mkF m 1 #[.val (.ref t), .val (.int (0 : Int32)), .val (.int (2 : Int32)), .val (.int q)] [(.ref t)])) rfl rfl (hb hby own_d4_1) _ k) ?_
  show G (s₁.setTop (mkF m 2 #[.val (.ref t), .val (.int (0 : Int32)), .val (.int (2 : Int32)), .val (.int q)] [(.int cl101.slots.size.toInt32)]))
  rw [len_of S101 M101]
  show G (s₁.setTop (mkF m 2 #[.val (.ref t), .val (.int (0 : Int32)), .val (.int (2 : Int32)), .val (.int q)] [(.int (2 : Int32))]))
  refine go _ _ (fun _ k => XS.iloadN X0.here hx rfl (hb hby own_d4_2) rfl (XS.iloadN X0.here hx rfl (hb hby own_d4_3) rfl k)) ?_
  show G (s₁.setTop (mkF m 4 #[.val (.ref t), .val (.int (0 : Int32)), .val (.int (2 : Int32)), .val (.int q)] [(.int (2 : Int32)), (.int (0 : Int32)), (.int (2 : Int32))]))
  obtain ⟨rv102, T102, L102, X102, q102, st102⟩ := own_st X0 hx hZ (y := (⟨"java/util/Arrays", "rangeCheck", "(III)V"⟩ : MethodName)) hown (ow hw 32 rfl) (ow hw 33 rfl) (ow hw 30 rfl) (ow hw 34 rfl) (by decide) (own_bkN (W := 0) (rmRC2 l Z a0 hw nk kk0 O_nk V_nk nw kw0 O_nw V_nw [] h0 n0 Z0) hZ (ow hw 34 rfl) (ow hw 30 rfl) (by decide) (by decide)) e0 (g := (mkF m 4 #[.val (.ref t), .val (.int (0 : Int32)), .val (.int (2 : Int32)), .val (.int q)] [(.int (2 : Int32)), (.int (0 : Int32)), (.int (2 : Int32))])) rfl (by rw [hml]; rfl) (argsL := [(.int (2 : Int32)), (.int (0 : Int32)), (.int (2 : Int32))]) (rest := []) rfl (lenOf own_pd1 rfl) rfl (by show 2 * 0 + _ ≤ _; exact Nat.le_of_eq rfl) (hb hby own_d4_4) (by decide) (by decide)
  obtain ⟨Nq102, e102, rfl⟩ := q102
  have N102 := Fr.app N0 Nq102
  refine go _ _ (st102) ?_
  show G (T102.setTop (mkF m 7 #[.val (.ref t), .val (.int (0 : Int32)), .val (.int (2 : Int32)), .val (.int q)] []))
  refine go _ _ (fun _ k => XS.aloadN X102.here hx rfl (hb hby own_d4_7) rfl rfl (XS.iloadN X102.here hx rfl (hb hby own_d4_8) rfl (XS.iloadN X102.here hx rfl (hb hby own_d4_9) rfl (XS.iloadN X102.here hx rfl (hb hby own_d4_10) rfl k)))) ?_
  show G (T102.setTop (mkF m 11 #[.val (.ref t), .val (.int (0 : Int32)), .val (.int (2 : Int32)), .val (.int q)] [(.int q), (.int (2 : Int32)), (.int (0 : Int32)), (.ref t)]))
  obtain ⟨rv103, T103, L103, X103, q103, st103⟩ := own_st X102 hx hZ (y := (⟨"java/util/Arrays", "binarySearch0", "([IIII)I"⟩ : MethodName)) hown (ow hw 35 rfl) (ow hw 36 rfl) (ow hw 30 rfl) (ow hw 37 rfl) (by decide) (own_bkN (W := 0) (rmBZ2 l Z a0 hw nk kk0 O_nk V_nk nw kw0 O_nw V_nw [] t q kk k0 k1 h0 n0 Z0 At) hZ (ow hw 37 rfl) (ow hw 30 rfl) (by decide) (by decide)) e102 (g := (mkF m 11 #[.val (.ref t), .val (.int (0 : Int32)), .val (.int (2 : Int32)), .val (.int q)] [(.int q), (.int (2 : Int32)), (.int (0 : Int32)), (.ref t)])) rfl (by rw [hml]; rfl) (argsL := [(.ref t), (.int (0 : Int32)), (.int (2 : Int32)), (.int q)]) (rest := []) rfl (lenOf own_pd2 rfl) rfl (by show 2 * 0 + _ ≤ _; exact Nat.le_of_eq rfl) (hb hby own_d4_11) (by decide) (by decide)
  obtain ⟨Nq103, e103, q103⟩ := q103
  have N103 := Fr.app N102 Nq103
  rcases q103 with ⟨rfl, p104⟩ | ⟨rfl, p105, p106⟩ | ⟨rfl, p107⟩ | ⟨rfl, p108⟩ | ⟨rfl, p109⟩
  · refine go _ _ (st103) ?_
    show G (T103.setTop (mkF m 14 #[.val (.ref t), .val (.int (0 : Int32)), .val (.int (2 : Int32)), .val (.int q)] [(.int (-3 : Int32))]))
    refine fin T103 _ _ _ (some (.int (-3 : Int32))) X103 (fun q => nomatch q) (by decide) (by decide) (by rw [e103]; exact ⟨N103, rfl, (Or.inl ⟨rfl, p104⟩)⟩) _ (own_retI X103 hx hret (hb hby own_d4_14))
  · refine go _ _ (st103) ?_
    show G (T103.setTop (mkF m 14 #[.val (.ref t), .val (.int (0 : Int32)), .val (.int (2 : Int32)), .val (.int q)] [(.int (-2 : Int32))]))
    refine fin T103 _ _ _ (some (.int (-2 : Int32))) X103 (fun q => nomatch q) (by decide) (by decide) (by rw [e103]; exact ⟨N103, rfl, (Or.inr (Or.inl ⟨rfl, p105, p106⟩))⟩) _ (own_retI X103 hx hret (hb hby own_d4_14))
  · refine go _ _ (st103) ?_
    show G (T103.setTop (mkF m 14 #[.val (.ref t), .val (.int (0 : Int32)), .val (.int (2 : Int32)), .val (.int q)] [(.int (1 : Int32))]))
    refine fin T103 _ _ _ (some (.int (1 : Int32))) X103 (fun q => nomatch q) (by decide) (by decide) (by rw [e103]; exact ⟨N103, rfl, (Or.inr (Or.inr (Or.inl ⟨rfl, p107⟩)))⟩) _ (own_retI X103 hx hret (hb hby own_d4_14))
  · refine go _ _ (st103) ?_
    show G (T103.setTop (mkF m 14 #[.val (.ref t), .val (.int (0 : Int32)), .val (.int (2 : Int32)), .val (.int q)] [(.int (-1 : Int32))]))
    refine fin T103 _ _ _ (some (.int (-1 : Int32))) X103 (fun q => nomatch q) (by decide) (by decide) (by rw [e103]; exact ⟨N103, rfl, (Or.inr (Or.inr (Or.inr (Or.inl ⟨rfl, p108⟩))))⟩) _ (own_retI X103 hx hret (hb hby own_d4_14))
  · refine go _ _ (st103) ?_
    show G (T103.setTop (mkF m 14 #[.val (.ref t), .val (.int (0 : Int32)), .val (.int (2 : Int32)), .val (.int q)] [(.int (0 : Int32))]))
    refine fin T103 _ _ _ (some (.int (0 : Int32))) X103 (fun q => nomatch q) (by decide) (by decide) (by rw [e103]; exact ⟨N103, rfl, (Or.inr (Or.inr (Or.inr (Or.inr ⟨rfl, p109⟩))))⟩) _ (own_retI X103 hx hret (hb hby own_d4_14))
set_option maxHeartbeats 4000000 in
theorem own_ef_rmRoom2 (m : MethodId) (x0 : Addr) (x1 : Int32) : entryFrame m #[(.ref x0), (.int x1)] 3 = mkF m 0 #[.val (.ref x0), .val (.int x1), .unset] [] := by rfl
set_option maxRecDepth 65536 in
set_option maxHeartbeats 40000000 in
theorem rmRoom2 (l : Launch) (Z : State) (a0 : Array Value) (hw : ∀ d ∈ tables_1, d.before a0 Z = true) (nk : Addr) (kk0 : ClassId) (O_nk : Sta Z Z.heap "com/example/hatoyama/hatoyama/IndexSet" "NO_KEYS" "[I" (.ref nk)) (V_nk : Arv Z Z.heap nk kk0 .int (0 : Int32) [] (.int (0 : Int32))) (nw : Addr) (kw0 : ClassId) (O_nw : Sta Z Z.heap "com/example/hatoyama/hatoyama/IndexSet" "NO_WORDS" "[J" (.ref nw)) (V_nw : Arv Z Z.heap nw kw0 .long (0 : Int32) [] (.long (0 : Int64))) (ws : List Jvm.Cond) (a : Addr) (kt : Addr) (wt : Addr) (kk : ClassId) (k0 : Int32) (k1 : Int32) (kw : ClassId) (w0 : Int64) (w1 : Int64) (h0 : Heap) (n0 : Nat) (Z0 : n0 ≤ h0.size) (Xo : Old Z n0 h0) (Ea : Exa Z h0 a "com/example/hatoyama/hatoyama/IndexSet") (Fk : Fld Z h0 a "com/example/hatoyama/hatoyama/IndexSet" "keys" "[I" (.ref kt)) (Fw : Fld Z h0 a "com/example/hatoyama/hatoyama/IndexSet" "words" "[J" (.ref wt)) (Fu : Fld Z h0 a "com/example/hatoyama/hatoyama/IndexSet" "used" "I" (.int (2 : Int32))) (Ak : Arv Z h0 kt kk .int (2 : Int32) [(.int k0), (.int k1)] (.int (0 : Int32))) (Aw : Arv Z h0 wt kw .long (2 : Int32) [(.long w0), (.long w1)] (.long (0 : Int64))) (gz_a : n0 ≤ a) :
    own_MetN l Z (⟨"com/example/hatoyama/hatoyama/IndexSet", "room", "(I)V"⟩ : MethodName) prog_3_method_10_code 3 none ws ({ frames := 2, cells := 2, slots := 6, locals := 42 } : Room) #[(.ref a), (.int (3 : Int32))] h0 (fun v h L => Fr n0 L ∧ Keep h0 h [a] ∧ ((∃ (kt2 : Addr) (wt2 : Addr) (kk2 : ClassId) (kw2 : ClassId), (v = none) ∧ (h0.size ≤ kt2) ∧ (h0.size ≤ wt2) ∧ (Exa Z h a "com/example/hatoyama/hatoyama/IndexSet") ∧ (Fld Z h a "com/example/hatoyama/hatoyama/IndexSet" "used" "I" (.int (2 : Int32))) ∧ (Fld Z h a "com/example/hatoyama/hatoyama/IndexSet" "keys" "[I" (.ref kt2)) ∧ (Fld Z h a "com/example/hatoyama/hatoyama/IndexSet" "words" "[J" (.ref wt2)) ∧ (Arv Z h kt2 kk2 .int (3 : Int32) [(.int k0), (.int k1), (.int (0 : Int32))] (.int (0 : Int32))) ∧ (Arv Z h wt2 kw2 .long (3 : Int32) [(.long w0), (.long w1), (.long (0 : Int64))] (.long (0 : Int64)))))) := by
  refine own_metN (plainFor_of_name own_pn0) ?_
  intro p e s m below meth c s₁ G hx hby hml hZ hown hnm hret X0 e0 go fin
  have N0 := Fr.nil n0
  refine go _ _ (fun _ k => castTop (own_ef_rmRoom2 m a (3 : Int32)) k) ?_
  show G (s₁.setTop (mkF m 0 #[.val (.ref a), .val (.int (3 : Int32)), .unset] []))
  refine go _ _ (fun _ k => XS.iloadN X0.here hx rfl (hb hby own_d7_0) rfl (XS.aloadN X0.here hx rfl (hb hby own_d7_1) rfl rfl k)) ?_
  show G (s₁.setTop (mkF m 2 #[.val (.ref a), .val (.int (3 : Int32)), .unset] [(.ref a), (.int (3 : Int32))]))
  obtain ⟨T101, X101, e101, st101⟩ := getF X0 hx hZ hown (host := "") (Or.inl (ow hw 11 rfl)) Via.refl e0 Fk (g := (mkF m 2 #[.val (.ref a), .val (.int (3 : Int32)), .unset] [(.ref a), (.int (3 : Int32))])) rfl rfl (hb hby own_d7_2)
  refine go _ _ (st101) ?_
  show G (T101.setTop (mkF m 5 #[.val (.ref a), .val (.int (3 : Int32)), .unset] [(.ref kt), (.int (3 : Int32))]))
  obtain ⟨cl102, Ar102, q102, S102, M102, H102, U102⟩ := id Ak
  refine go _ _ (fun _ k => X101.arraylength hx (by rw [e101]; exact Ar102.1) (State.isArrayOf_alike hZ.alike Ar102.2.1) (g := (mkF m 5 #[.val (.ref a), .val (.int (3 : Int32)), .unset] [(.ref kt), (.int (3 : Int32))])) rfl rfl (hb hby own_d7_5) _ k) ?_
  show G (T101.setTop (mkF m 6 #[.val (.ref a), .val (.int (3 : Int32)), .unset] [(.int cl102.slots.size.toInt32), (.int (3 : Int32))]))
  rw [len_of S102 M102]
  show G (T101.setTop (mkF m 6 #[.val (.ref a), .val (.int (3 : Int32)), .unset] [(.int (2 : Int32)), (.int (3 : Int32))]))
  refine go _ _ (fun _ k => XS.icmpNo X101.here hx rfl (hb hby own_d7_6) rfl (by decide) k) ?_
  show G (T101.setTop (mkF m 9 #[.val (.ref a), .val (.int (3 : Int32)), .unset] []))
  refine go _ _ (fun _ k => XS.iloadN X101.here hx rfl (hb hby own_d7_9) rfl (XS.aloadN X101.here hx rfl (hb hby own_d7_10) rfl rfl k)) ?_
  show G (T101.setTop (mkF m 11 #[.val (.ref a), .val (.int (3 : Int32)), .unset] [(.ref a), (.int (3 : Int32))]))
  obtain ⟨T103, X103, e103, st103⟩ := getF X101 hx hZ hown (host := "") (Or.inl (ow hw 26 rfl)) Via.refl e101 Fu (g := (mkF m 11 #[.val (.ref a), .val (.int (3 : Int32)), .unset] [(.ref a), (.int (3 : Int32))])) rfl rfl (hb hby own_d7_11)
  refine go _ _ (st103) ?_
  show G (T103.setTop (mkF m 14 #[.val (.ref a), .val (.int (3 : Int32)), .unset] [(.int (2 : Int32)), (.int (3 : Int32))]))
  refine go _ _ (fun _ k => XS.aloadN X103.here hx rfl (hb hby own_d7_14) rfl rfl k) ?_
  show G (T103.setTop (mkF m 15 #[.val (.ref a), .val (.int (3 : Int32)), .unset] [(.ref a), (.int (2 : Int32)), (.int (3 : Int32))]))
  obtain ⟨T104, X104, e104, st104⟩ := getF X103 hx hZ hown (host := "") (Or.inl (ow hw 26 rfl)) Via.refl e103 Fu (g := (mkF m 15 #[.val (.ref a), .val (.int (3 : Int32)), .unset] [(.ref a), (.int (2 : Int32)), (.int (3 : Int32))])) rfl rfl (hb hby own_d7_15)
  refine go _ _ (st104) ?_
  show G (T104.setTop (mkF m 18 #[.val (.ref a), .val (.int (3 : Int32)), .unset] [(.int (2 : Int32)), (.int (2 : Int32)), (.int (3 : Int32))]))
  refine go _ _ (fun _ k => XS.iconst X104.here hx rfl (hb hby own_d7_18) (XS.ishr X104.here hx rfl (hb hby own_d7_19) rfl (XS.iadd X104.here hx rfl (hb hby own_d7_20) rfl k))) ?_
  show G (T104.setTop (mkF m 21 #[.val (.ref a), .val (.int (3 : Int32)), .unset] [(.int (3 : Int32)), (.int (3 : Int32))]))
  obtain ⟨rv105, T105, L105, X105, q105, st105⟩ := own_st X104 hx hZ (y := (⟨"java/lang/Math", "max", "(II)I"⟩ : MethodName)) hown (ow hw 42 rfl) (ow hw 43 rfl) (ow hw 44 rfl) (ow hw 45 rfl) (by decide) (own_bkN (W := 0) (rm8 l Z a0 hw nk kk0 O_nk V_nk nw kw0 O_nw V_nw [] (3 : Int32) (3 : Int32) h0 n0 Z0) hZ (ow hw 45 rfl) (ow hw 44 rfl) (by decide) (by decide)) e104 (g := (mkF m 21 #[.val (.ref a), .val (.int (3 : Int32)), .unset] [(.int (3 : Int32)), (.int (3 : Int32))])) rfl (by rw [hml]; rfl) (argsL := [(.int (3 : Int32)), (.int (3 : Int32))]) (rest := []) rfl (lenOf own_pd0 rfl) rfl (by show 2 * 0 + _ ≤ _; exact Nat.le_of_eq rfl) (hb hby own_d7_21) (by decide) (by decide)
  obtain ⟨Nq105, e105, q105⟩ := q105
  have N105 := Fr.app N0 Nq105
  rcases q105 with ⟨rfl, p106⟩ | ⟨rfl, p107⟩
  · exact absurd p106 own_irr
  · refine go _ _ (st105) ?_
    show G (T105.setTop (mkF m 24 #[.val (.ref a), .val (.int (3 : Int32)), .unset] [(.int (3 : Int32))]))
    refine go _ _ (fun _ k => XS.istoreN X105.here hx rfl (hb hby own_d7_24) rfl (l' := #[.val (.ref a), .val (.int (3 : Int32)), .val (.int (3 : Int32))]) rfl (XS.aloadN X105.here hx rfl (hb hby own_d7_25) rfl rfl (XS.aloadN X105.here hx rfl (hb hby own_d7_26) rfl rfl k))) ?_
    show G (T105.setTop (mkF m 27 #[.val (.ref a), .val (.int (3 : Int32)), .val (.int (3 : Int32))] [(.ref a), (.ref a)]))
    obtain ⟨T108, X108, e108, st108⟩ := getF X105 hx hZ hown (host := "") (Or.inl (ow hw 11 rfl)) Via.refl e105 Fk (g := (mkF m 27 #[.val (.ref a), .val (.int (3 : Int32)), .val (.int (3 : Int32))] [(.ref a), (.ref a)])) rfl rfl (hb hby own_d7_27)
    refine go _ _ (st108) ?_
    show G (T108.setTop (mkF m 30 #[.val (.ref a), .val (.int (3 : Int32)), .val (.int (3 : Int32))] [(.ref kt), (.ref a)]))
    refine go _ _ (fun _ k => XS.iloadN X108.here hx rfl (hb hby own_d7_30) rfl k) ?_
    show G (T108.setTop (mkF m 31 #[.val (.ref a), .val (.int (3 : Int32)), .val (.int (3 : Int32))] [(.int (3 : Int32)), (.ref kt), (.ref a)]))
    obtain ⟨rv109, T109, L109, X109, q109, st109⟩ := own_st X108 hx hZ (y := (⟨"java/util/Arrays", "copyOf", "([II)[I"⟩ : MethodName)) hown (ow hw 46 rfl) (ow hw 47 rfl) (ow hw 30 rfl) (ow hw 48 rfl) (by decide) (own_bkN (W := 1) (rmCI2 l Z a0 hw nk kk0 O_nk V_nk nw kw0 O_nw V_nw [] kt kk k0 k1 h0 n0 Z0 Ak) hZ (ow hw 48 rfl) (ow hw 30 rfl) (by decide) (by decide)) e108 (g := (mkF m 31 #[.val (.ref a), .val (.int (3 : Int32)), .val (.int (3 : Int32))] [(.int (3 : Int32)), (.ref kt), (.ref a)])) rfl (by rw [hml]; rfl) (argsL := [(.ref kt), (.int (3 : Int32))]) (rest := [(.ref a)]) rfl (lenOf own_pd3 rfl) rfl (by show 2 * 0 + _ ≤ _; exact Nat.le_of_eq rfl) (hb hby own_d7_31) (by decide) (by decide)
    obtain ⟨Nq109, Kp109, ⟨b_110, kb_111, rfl, z112, f113⟩⟩ := q109
    have N109 := Fr.app N105 Nq109
    refine go _ _ (st109) ?_
    show G (T109.setTop (mkF m 34 #[.val (.ref a), .val (.int (3 : Int32)), .val (.int (3 : Int32))] [(.ref b_110), (.ref a)]))
    have K115 : Keep h0 T109.heap [] := (Keep.refl h0 []).trans Kp109 all0
    have F116 : Fld Z T109.heap a "com/example/hatoyama/hatoyama/IndexSet" "keys" "[I" (.ref kt) := (Fk.keep K115 nin0)
    have F117 : Exa Z T109.heap a "com/example/hatoyama/hatoyama/IndexSet" := (Ea.keep K115)
    obtain ⟨T114, h114, X114, e114, W114, st114⟩ := putF X109 hx hZ hown (host := "") (Or.inl (ow hw 11 rfl)) Via.refl rfl F116 F117 (Or.inl (ow hw 12 rfl)) (ow hw 1 rfl) (ty := (.array .int)) (by decide) rfl rfl (g := (mkF m 34 #[.val (.ref a), .val (.int (3 : Int32)), .val (.int (3 : Int32))] [(.ref b_110), (.ref a)])) rfl rfl (hb hby own_d7_34)
    have F118 : Fld Z T109.heap a "com/example/hatoyama/hatoyama/IndexSet" "words" "[J" (.ref wt) := (Fw.keep K115 nin0)
    have F119 : Fld Z T109.heap a "com/example/hatoyama/hatoyama/IndexSet" "used" "I" (.int (2 : Int32)) := (Fu.keep K115 nin0)
    have N114 := Fr.snoc X114 N109 gz_a
    refine go _ _ (st114) ?_
    show G (T114.setTop (mkF m 37 #[.val (.ref a), .val (.int (3 : Int32)), .val (.int (3 : Int32))] []))
    refine go _ _ (fun _ k => XS.aloadN X114.here hx rfl (hb hby own_d7_37) rfl rfl (XS.aloadN X114.here hx rfl (hb hby own_d7_38) rfl rfl k)) ?_
    show G (T114.setTop (mkF m 39 #[.val (.ref a), .val (.int (3 : Int32)), .val (.int (3 : Int32))] [(.ref a), (.ref a)]))
    obtain ⟨T120, X120, e120, st120⟩ := getF X114 hx hZ hown (host := "") (Or.inl (ow hw 15 rfl)) Via.refl e114 (F118.other W114 (Or.inr (RoadKit.slot_ne (t := (.array .long)) (t' := (.array .int)) (Or.inl (ow hw 16 rfl)) (Or.inl (ow hw 12 rfl)) (by decide) (by decide) (by decide)))) (g := (mkF m 39 #[.val (.ref a), .val (.int (3 : Int32)), .val (.int (3 : Int32))] [(.ref a), (.ref a)])) rfl rfl (hb hby own_d7_39)
    refine go _ _ (st120) ?_
    show G (T120.setTop (mkF m 42 #[.val (.ref a), .val (.int (3 : Int32)), .val (.int (3 : Int32))] [(.ref wt), (.ref a)]))
    refine go _ _ (fun _ k => XS.iloadN X120.here hx rfl (hb hby own_d7_42) rfl k) ?_
    show G (T120.setTop (mkF m 43 #[.val (.ref a), .val (.int (3 : Int32)), .val (.int (3 : Int32))] [(.int (3 : Int32)), (.ref wt), (.ref a)]))
    have K122 : Keep h0 T109.heap [a] := (Keep.refl h0 [a]).trans Kp109 all0
    have K123 : Keep h0 h114 [a] := K122.wr W114 (Or.inl (List.mem_of_getElem? (i := 0) rfl))
    have F124 : Arv Z h114 wt kw .long (2 : Int32) [(.long w0), (.long w1)] (.long (0 : Int64)) := (Aw.keep K123 (ninS (Ne.symm (Exa.neArv Ea Aw (ow hw 1 rfl))) nin0))
    have Z125 : h0.size ≤ T109.heap.size := Kp109.1
    have Z126 : h0.size ≤ h114.size := Nat.le_trans Z125 (Keep.of_wr W114).1
    obtain ⟨rv121, T121, L121, X121, q121, st121⟩ := own_st X120 hx hZ (y := (⟨"java/util/Arrays", "copyOf", "([JI)[J"⟩ : MethodName)) hown (ow hw 57 rfl) (ow hw 58 rfl) (ow hw 30 rfl) (ow hw 59 rfl) (by decide) (own_bkN (W := 1) (rmCJ2 l Z a0 hw nk kk0 O_nk V_nk nw kw0 O_nw V_nw [] wt kw w0 w1 h114 n0 (Nat.le_trans Z0 Z126) F124) hZ (ow hw 59 rfl) (ow hw 30 rfl) (by decide) (by decide)) e120 (g := (mkF m 43 #[.val (.ref a), .val (.int (3 : Int32)), .val (.int (3 : Int32))] [(.int (3 : Int32)), (.ref wt), (.ref a)])) rfl (by rw [hml]; rfl) (argsL := [(.ref wt), (.int (3 : Int32))]) (rest := [(.ref a)]) rfl (lenOf own_pd4 rfl) rfl (by show 2 * 0 + _ ≤ _; exact Nat.le_of_eq rfl) (hb hby own_d7_43) (by decide) (by decide)
    obtain ⟨Nq121, Kp121, ⟨b_127, kb_128, rfl, z129, f130⟩⟩ := q121
    have N121 := Fr.app N114 Nq121
    refine go _ _ (st121) ?_
    show G (T121.setTop (mkF m 46 #[.val (.ref a), .val (.int (3 : Int32)), .val (.int (3 : Int32))] [(.ref b_127), (.ref a)]))
    have K132 : Keep h114 T121.heap [] := (Keep.refl h114 []).trans Kp121 all0
    have F133 : Fld Z T121.heap a "com/example/hatoyama/hatoyama/IndexSet" "words" "[J" (.ref wt) := ((F118.other W114 (Or.inr (RoadKit.slot_ne (t := (.array .long)) (t' := (.array .int)) (Or.inl (ow hw 16 rfl)) (Or.inl (ow hw 12 rfl)) (by decide) (by decide) (by decide)))).keep K132 nin0)
    have F134 : Exa Z T121.heap a "com/example/hatoyama/hatoyama/IndexSet" := ((F117.wr W114).keep K132)
    obtain ⟨T131, h131, X131, e131, W131, st131⟩ := putF X121 hx hZ hown (host := "") (Or.inl (ow hw 15 rfl)) Via.refl rfl F133 F134 (Or.inl (ow hw 16 rfl)) (ow hw 1 rfl) (ty := (.array .long)) (by decide) rfl rfl (g := (mkF m 46 #[.val (.ref a), .val (.int (3 : Int32)), .val (.int (3 : Int32))] [(.ref b_127), (.ref a)])) rfl rfl (hb hby own_d7_46)
    have F135 : Fld Z T121.heap a "com/example/hatoyama/hatoyama/IndexSet" "keys" "[I" (.ref b_110) := ((F116.same W114).keep K132 nin0)
    have F136 : Fld Z T121.heap a "com/example/hatoyama/hatoyama/IndexSet" "used" "I" (.int (2 : Int32)) := ((F119.other W114 (Or.inr (RoadKit.slot_ne (t := .int) (t' := (.array .int)) (Or.inl (ow hw 27 rfl)) (Or.inl (ow hw 12 rfl)) (by decide) (by decide) (by decide)))).keep K132 nin0)
    have N131 := Fr.snoc X131 N121 gz_a
    refine go _ _ (st131) ?_
    show G (T131.setTop (mkF m 49 #[.val (.ref a), .val (.int (3 : Int32)), .val (.int (3 : Int32))] []))
    have K137 : Keep h0 T121.heap [a] := K123.trans Kp121 all0
    have K138 : Keep h0 h131 [a] := K137.wr W131 (Or.inl (List.mem_of_getElem? (i := 0) rfl))
    have K139 : Keep T109.heap h114 [a] := (Keep.refl T109.heap [a]).wr W114 (Or.inl (List.mem_of_getElem? (i := 0) rfl))
    have K140 : Keep T109.heap T121.heap [a] := K139.trans Kp121 all0
    have K141 : Keep T109.heap h131 [a] := K140.wr W131 (Or.inl (List.mem_of_getElem? (i := 0) rfl))
    have F142 : Arv Z h131 b_110 kb_111 .int (3 : Int32) [(.int k0), (.int k1), (.int (0 : Int32))] (.int (0 : Int32)) := (f113.keep K141 (ninS (Ne.symm (Nat.ne_of_lt (Nat.lt_of_lt_of_le Fk.lt z112))) nin0))
    have K143 : Keep T121.heap h131 [a] := (Keep.refl T121.heap [a]).wr W131 (Or.inl (List.mem_of_getElem? (i := 0) rfl))
    have F144 : Arv Z h131 b_127 kb_128 .long (3 : Int32) [(.long w0), (.long w1), (.long (0 : Int64))] (.long (0 : Int64)) := (f130.keep K143 (ninS (Ne.symm (Nat.ne_of_lt (Nat.lt_of_lt_of_le (F116.same W114).lt z129))) nin0))
    refine fin T131 _ _ _ none X131 (fun _ => rfl) (by decide) (by decide) (by rw [e131]; exact ⟨N131, K138, ⟨b_110, b_127, kb_111, kb_128, rfl, z112, (Nat.le_trans Z126 z129), (F134.wr W131), (F136.other W131 (Or.inr (RoadKit.slot_ne (t := .int) (t' := (.array .long)) (Or.inl (ow hw 27 rfl)) (Or.inl (ow hw 16 rfl)) (by decide) (by decide) (by decide)))), (F135.other W131 (Or.inr (RoadKit.slot_ne (t := (.array .int)) (t' := (.array .long)) (Or.inl (ow hw 12 rfl)) (Or.inl (ow hw 16 rfl)) (by decide) (by decide) (by decide)))), (F133.same W131), F142, F144⟩⟩) _ (own_retV X131 hx hret (hb hby own_d7_49))
set_option maxHeartbeats 4000000 in
theorem own_ef_rmAdd2 (m : MethodId) (x0 : Addr) (x1 : Int32) : entryFrame m #[(.ref x0), (.int x1)] 4 = mkF m 0 #[.val (.ref x0), .val (.int x1), .unset, .unset] [] := by rfl
set_option maxRecDepth 65536 in
set_option maxHeartbeats 40000000 in
theorem rmAdd2 (l : Launch) (Z : State) (a0 : Array Value) (hw : ∀ d ∈ tables_1, d.before a0 Z = true) (nk : Addr) (kk0 : ClassId) (O_nk : Sta Z Z.heap "com/example/hatoyama/hatoyama/IndexSet" "NO_KEYS" "[I" (.ref nk)) (V_nk : Arv Z Z.heap nk kk0 .int (0 : Int32) [] (.int (0 : Int32))) (nw : Addr) (kw0 : ClassId) (O_nw : Sta Z Z.heap "com/example/hatoyama/hatoyama/IndexSet" "NO_WORDS" "[J" (.ref nw)) (V_nw : Arv Z Z.heap nw kw0 .long (0 : Int32) [] (.long (0 : Int64))) (ws : List Jvm.Cond) (a : Addr) (x : Int32) (kt : Addr) (wt : Addr) (kk : ClassId) (k0 : Int32) (k1 : Int32) (kw : ClassId) (w0 : Int64) (w1 : Int64) (h0 : Heap) (n0 : Nat) (Z0 : n0 ≤ h0.size) (Xo : Old Z n0 h0) (Ea : Exa Z h0 a "com/example/hatoyama/hatoyama/IndexSet") (Fk : Fld Z h0 a "com/example/hatoyama/hatoyama/IndexSet" "keys" "[I" (.ref kt)) (Fw : Fld Z h0 a "com/example/hatoyama/hatoyama/IndexSet" "words" "[J" (.ref wt)) (Fu : Fld Z h0 a "com/example/hatoyama/hatoyama/IndexSet" "used" "I" (.int (2 : Int32))) (Ak : Arv Z h0 kt kk .int (2 : Int32) [(.int k0), (.int k1)] (.int (0 : Int32))) (Aw : Arv Z h0 wt kw .long (2 : Int32) [(.long w0), (.long w1)] (.long (0 : Int64))) (hs : own_Srt ([(k0, w0), (k1, w1)] : List (Int32 × Int64))) (gz_a : n0 ≤ a) (gz_wt : n0 ≤ wt) :
    own_MetN l Z (⟨"com/example/hatoyama/hatoyama/IndexSet", "add", "(I)V"⟩ : MethodName) prog_3_method_4_code 4 none ws ({ frames := 3, cells := 2, slots := 6, locals := 56 } : Room) #[(.ref a), (.int x)] h0 (fun v h L => Fr n0 L ∧ Keep h0 h [a, wt] ∧ ((∃ (v0 : Int64) (v1 : Int64), (v = none) ∧ (own_Srt ([(k0, v0), (k1, v1)] : List (Int32 × Int64))) ∧ (own_Add ([(k0, w0), (k1, w1)] : List (Int32 × Int64)) ([(k0, v0), (k1, v1)] : List (Int32 × Int64)) x) ∧ (Exa Z h a "com/example/hatoyama/hatoyama/IndexSet") ∧ (Fld Z h a "com/example/hatoyama/hatoyama/IndexSet" "used" "I" (.int (2 : Int32))) ∧ (Fld Z h a "com/example/hatoyama/hatoyama/IndexSet" "keys" "[I" (.ref kt)) ∧ (Fld Z h a "com/example/hatoyama/hatoyama/IndexSet" "words" "[J" (.ref wt)) ∧ (Arv Z h kt kk .int (2 : Int32) [(.int k0), (.int k1)] (.int (0 : Int32))) ∧ (Arv Z h wt kw .long (2 : Int32) [(.long v0), (.long v1)] (.long (0 : Int64)))) ∨ (∃ (kt2 : Addr) (wt2 : Addr) (kk2 : ClassId) (kw2 : ClassId) (m0 : Int32) (m1 : Int32) (m2 : Int32) (v0 : Int64) (v1 : Int64) (v2 : Int64), (v = none) ∧ (h0.size ≤ kt2) ∧ (h0.size ≤ wt2) ∧ (own_Srt ([(m0, v0), (m1, v1), (m2, v2)] : List (Int32 × Int64))) ∧ (own_Add ([(k0, w0), (k1, w1)] : List (Int32 × Int64)) ([(m0, v0), (m1, v1), (m2, v2)] : List (Int32 × Int64)) x) ∧ (Exa Z h a "com/example/hatoyama/hatoyama/IndexSet") ∧ (Fld Z h a "com/example/hatoyama/hatoyama/IndexSet" "used" "I" (.int (3 : Int32))) ∧ (Fld Z h a "com/example/hatoyama/hatoyama/IndexSet" "keys" "[I" (.ref kt2)) ∧ (Fld Z h a "com/example/hatoyama/hatoyama/IndexSet" "words" "[J" (.ref wt2)) ∧ (Arv Z h kt2 kk2 .int (3 : Int32) [(.int m0), (.int m1), (.int m2)] (.int (0 : Int32))) ∧ (Arv Z h wt2 kw2 .long (3 : Int32) [(.long v0), (.long v1), (.long v2)] (.long (0 : Int64)))))) := by
  refine own_metN (plainFor_of_name own_pn0) ?_
  intro p e s m below meth c s₁ G hx hby hml hZ hown hnm hret X0 e0 go fin
  have N0 := Fr.nil n0
  refine go _ _ (fun _ k => castTop (own_ef_rmAdd2 m a x) k) ?_
  show G (s₁.setTop (mkF m 0 #[.val (.ref a), .val (.int x), .unset, .unset] []))
  refine go _ _ (fun _ k => XS.aloadN X0.here hx rfl (hb hby own_d3_0) rfl rfl k) ?_
  show G (s₁.setTop (mkF m 1 #[.val (.ref a), .val (.int x), .unset, .unset] [(.ref a)]))
  obtain ⟨T101, X101, e101, st101⟩ := getF X0 hx hZ hown (host := "") (Or.inl (ow hw 11 rfl)) Via.refl e0 Fk (g := (mkF m 1 #[.val (.ref a), .val (.int x), .unset, .unset] [(.ref a)])) rfl rfl (hb hby own_d3_1)
  refine go _ _ (st101) ?_
  show G (T101.setTop (mkF m 4 #[.val (.ref a), .val (.int x), .unset, .unset] [(.ref kt)]))
  refine go _ _ (fun _ k => XS.iconst X101.here hx rfl (hb hby own_d3_4) (XS.aloadN X101.here hx rfl (hb hby own_d3_5) rfl rfl k)) ?_
  show G (T101.setTop (mkF m 6 #[.val (.ref a), .val (.int x), .unset, .unset] [(.ref a), (.int (0 : Int32)), (.ref kt)]))
  obtain ⟨T102, X102, e102, st102⟩ := getF X101 hx hZ hown (host := "") (Or.inl (ow hw 26 rfl)) Via.refl e101 Fu (g := (mkF m 6 #[.val (.ref a), .val (.int x), .unset, .unset] [(.ref a), (.int (0 : Int32)), (.ref kt)])) rfl rfl (hb hby own_d3_6)
  refine go _ _ (st102) ?_
  show G (T102.setTop (mkF m 9 #[.val (.ref a), .val (.int x), .unset, .unset] [(.int (2 : Int32)), (.int (0 : Int32)), (.ref kt)]))
  refine go _ _ (fun _ k => XS.iloadN X102.here hx rfl (hb hby own_d3_9) rfl (XS.bipush X102.here hx rfl (hb hby own_d3_10) (XS.iushr X102.here hx rfl (hb hby own_d3_12) rfl k))) ?_
  show G (T102.setTop (mkF m 13 #[.val (.ref a), .val (.int x), .unset, .unset] [(.int ((x.toUInt32 >>> ((6 : Int32) &&& 31).toUInt32).toInt32)), (.int (2 : Int32)), (.int (0 : Int32)), (.ref kt)]))
  obtain ⟨rv103, T103, L103, X103, q103, st103⟩ := own_st X102 hx hZ (y := (⟨"java/util/Arrays", "binarySearch", "([IIII)I"⟩ : MethodName)) hown (ow hw 28 rfl) (ow hw 29 rfl) (ow hw 30 rfl) (ow hw 31 rfl) (by decide) (own_bkN (W := 0) (rmBS2 l Z a0 hw nk kk0 O_nk V_nk nw kw0 O_nw V_nw [] kt ((x.toUInt32 >>> ((6 : Int32) &&& 31).toUInt32).toInt32) kk k0 k1 h0 n0 Z0 Ak) hZ (ow hw 31 rfl) (ow hw 30 rfl) (by decide) (by decide)) e102 (g := (mkF m 13 #[.val (.ref a), .val (.int x), .unset, .unset] [(.int ((x.toUInt32 >>> ((6 : Int32) &&& 31).toUInt32).toInt32)), (.int (2 : Int32)), (.int (0 : Int32)), (.ref kt)])) rfl (by rw [hml]; rfl) (argsL := [(.ref kt), (.int (0 : Int32)), (.int (2 : Int32)), (.int ((x.toUInt32 >>> ((6 : Int32) &&& 31).toUInt32).toInt32))]) (rest := []) rfl (lenOf own_pd2 rfl) rfl (by show 2 * 0 + _ ≤ _; exact Nat.le_of_eq rfl) (hb hby own_d3_13) (by decide) (by decide)
  obtain ⟨Nq103, e103, q103⟩ := q103
  have N103 := Fr.app N0 Nq103
  rcases q103 with ⟨rfl, p104⟩ | ⟨rfl, p105, p106⟩ | ⟨rfl, p107⟩ | ⟨rfl, p108⟩ | ⟨rfl, p109⟩
  · refine go _ _ (st103) ?_
    show G (T103.setTop (mkF m 16 #[.val (.ref a), .val (.int x), .unset, .unset] [(.int (-3 : Int32))]))
    refine go _ _ (fun _ k => XS.istoreN X103.here hx rfl (hb hby own_d3_16) rfl (l' := #[.val (.ref a), .val (.int x), .val (.int (-3 : Int32)), .unset]) rfl (XS.iloadN X103.here hx rfl (hb hby own_d3_17) rfl k)) ?_
    show G (T103.setTop (mkF m 18 #[.val (.ref a), .val (.int x), .val (.int (-3 : Int32)), .unset] [(.int (-3 : Int32))]))
    refine go _ _ (fun _ k => XS.ifYes X103.here hx rfl (pc0 := 18) (pc' := 36) rfl (hb hby own_d3_18) rfl (by decide) (by decide) (by decide) k) ?_
    show G (T103.setTop (mkF m 36 #[.val (.ref a), .val (.int x), .val (.int (-3 : Int32)), .unset] []))
    refine go _ _ (fun _ k => XS.iconst X103.here hx rfl (hb hby own_d3_36) (XS.iloadN X103.here hx rfl (hb hby own_d3_37) rfl (XS.isub X103.here hx rfl (hb hby own_d3_38) rfl (XS.istoreN X103.here hx rfl (hb hby own_d3_39) rfl (l' := #[.val (.ref a), .val (.int x), .val (.int (-3 : Int32)), .val (.int (2 : Int32))]) rfl (XS.aloadN X103.here hx rfl (hb hby own_d3_40) rfl rfl (XS.aloadN X103.here hx rfl (hb hby own_d3_41) rfl rfl k)))))) ?_
    show G (T103.setTop (mkF m 42 #[.val (.ref a), .val (.int x), .val (.int (-3 : Int32)), .val (.int (2 : Int32))] [(.ref a), (.ref a)]))
    obtain ⟨T110, X110, e110, st110⟩ := getF X103 hx hZ hown (host := "") (Or.inl (ow hw 26 rfl)) Via.refl e103 Fu (g := (mkF m 42 #[.val (.ref a), .val (.int x), .val (.int (-3 : Int32)), .val (.int (2 : Int32))] [(.ref a), (.ref a)])) rfl rfl (hb hby own_d3_42)
    refine go _ _ (st110) ?_
    show G (T110.setTop (mkF m 45 #[.val (.ref a), .val (.int x), .val (.int (-3 : Int32)), .val (.int (2 : Int32))] [(.int (2 : Int32)), (.ref a)]))
    refine go _ _ (fun _ k => XS.iconst X110.here hx rfl (hb hby own_d3_45) (XS.iadd X110.here hx rfl (hb hby own_d3_46) rfl k)) ?_
    show G (T110.setTop (mkF m 47 #[.val (.ref a), .val (.int x), .val (.int (-3 : Int32)), .val (.int (2 : Int32))] [(.int (3 : Int32)), (.ref a)]))
    obtain ⟨rv111, T111, L111, X111, q111, st111⟩ := own_pr X110 hx hZ (y := (⟨"com/example/hatoyama/hatoyama/IndexSet", "room", "(I)V"⟩ : MethodName)) hown (ow hw 38 rfl) (ow hw 39 rfl) (own_selfp (y := (⟨"com/example/hatoyama/hatoyama/IndexSet", "room", "(I)V"⟩ : MethodName)) (ow hw 40 rfl) (ow hw 39 rfl) (ow hw 1 rfl) (by decide)) (ow hw 40 rfl) (ow hw 41 rfl) (by decide) (own_bkN (W := 0) (rmRoom2 l Z a0 hw nk kk0 O_nk V_nk nw kw0 O_nw V_nw [] a kt wt kk k0 k1 kw w0 w1 h0 n0 Z0 Xo Ea Fk Fw Fu Ak Aw gz_a) hZ (ow hw 41 rfl) (ow hw 2 rfl) (by decide) (by decide)) e110 Ea (g := (mkF m 47 #[.val (.ref a), .val (.int x), .val (.int (-3 : Int32)), .val (.int (2 : Int32))] [(.int (3 : Int32)), (.ref a)])) rfl (by rw [hml]; rfl) (argsL := [(.int (3 : Int32))]) (rest := []) rfl (lenOf own_pd5 rfl) rfl (by show 2 * 0 + _ ≤ _; exact Nat.le_of_eq rfl) (hb hby own_d3_47) (by decide) (by decide)
    obtain ⟨Nq111, Kp111, ⟨kt2_112, wt2_113, kk2_114, kw2_115, rfl, z116, z117, f118, f119, f120, f121, f122, f123⟩⟩ := q111
    have N111 := Fr.app N103 Nq111
    refine go _ _ (st111) ?_
    show G (T111.setTop (mkF m 50 #[.val (.ref a), .val (.int x), .val (.int (-3 : Int32)), .val (.int (2 : Int32))] []))
    refine go _ _ (fun _ k => XS.aloadN X111.here hx rfl (hb hby own_d3_50) rfl rfl k) ?_
    show G (T111.setTop (mkF m 51 #[.val (.ref a), .val (.int x), .val (.int (-3 : Int32)), .val (.int (2 : Int32))] [(.ref a)]))
    obtain ⟨T124, X124, e124, st124⟩ := getF X111 hx hZ hown (host := "") (Or.inl (ow hw 11 rfl)) Via.refl rfl f120 (g := (mkF m 51 #[.val (.ref a), .val (.int x), .val (.int (-3 : Int32)), .val (.int (2 : Int32))] [(.ref a)])) rfl rfl (hb hby own_d3_51)
    refine go _ _ (st124) ?_
    show G (T124.setTop (mkF m 54 #[.val (.ref a), .val (.int x), .val (.int (-3 : Int32)), .val (.int (2 : Int32))] [(.ref kt2_112)]))
    refine go _ _ (fun _ k => XS.iloadN X124.here hx rfl (hb hby own_d3_54) rfl (XS.aloadN X124.here hx rfl (hb hby own_d3_55) rfl rfl k)) ?_
    show G (T124.setTop (mkF m 56 #[.val (.ref a), .val (.int x), .val (.int (-3 : Int32)), .val (.int (2 : Int32))] [(.ref a), (.int (2 : Int32)), (.ref kt2_112)]))
    obtain ⟨T125, X125, e125, st125⟩ := getF X124 hx hZ hown (host := "") (Or.inl (ow hw 11 rfl)) Via.refl e124 f120 (g := (mkF m 56 #[.val (.ref a), .val (.int x), .val (.int (-3 : Int32)), .val (.int (2 : Int32))] [(.ref a), (.int (2 : Int32)), (.ref kt2_112)])) rfl rfl (hb hby own_d3_56)
    refine go _ _ (st125) ?_
    show G (T125.setTop (mkF m 59 #[.val (.ref a), .val (.int x), .val (.int (-3 : Int32)), .val (.int (2 : Int32))] [(.ref kt2_112), (.int (2 : Int32)), (.ref kt2_112)]))
    refine go _ _ (fun _ k => XS.iloadN X125.here hx rfl (hb hby own_d3_59) rfl (XS.iconst X125.here hx rfl (hb hby own_d3_60) (XS.iadd X125.here hx rfl (hb hby own_d3_61) rfl (XS.aloadN X125.here hx rfl (hb hby own_d3_62) rfl rfl k)))) ?_
    show G (T125.setTop (mkF m 63 #[.val (.ref a), .val (.int x), .val (.int (-3 : Int32)), .val (.int (2 : Int32))] [(.ref a), (.int (3 : Int32)), (.ref kt2_112), (.int (2 : Int32)), (.ref kt2_112)]))
    obtain ⟨T126, X126, e126, st126⟩ := getF X125 hx hZ hown (host := "") (Or.inl (ow hw 26 rfl)) Via.refl e125 f119 (g := (mkF m 63 #[.val (.ref a), .val (.int x), .val (.int (-3 : Int32)), .val (.int (2 : Int32))] [(.ref a), (.int (3 : Int32)), (.ref kt2_112), (.int (2 : Int32)), (.ref kt2_112)])) rfl rfl (hb hby own_d3_63)
    refine go _ _ (st126) ?_
    show G (T126.setTop (mkF m 66 #[.val (.ref a), .val (.int x), .val (.int (-3 : Int32)), .val (.int (2 : Int32))] [(.int (2 : Int32)), (.int (3 : Int32)), (.ref kt2_112), (.int (2 : Int32)), (.ref kt2_112)]))
    refine go _ _ (fun _ k => XS.iloadN X126.here hx rfl (hb hby own_d3_66) rfl (XS.isub X126.here hx rfl (hb hby own_d3_67) rfl k)) ?_
    show G (T126.setTop (mkF m 68 #[.val (.ref a), .val (.int x), .val (.int (-3 : Int32)), .val (.int (2 : Int32))] [(.int (0 : Int32)), (.int (3 : Int32)), (.ref kt2_112), (.int (2 : Int32)), (.ref kt2_112)]))
    obtain ⟨T127, h127, L127, X127, e127, N127, Kp127, V127, st127⟩ := cpA X126 hx hZ hown (ow hw 61 rfl) (ow hw 56 rfl) (ow hw 54 rfl) (ow hw 55 rfl) e126 f122 f122 (us := []) (Or.inl ⟨rfl, rfl⟩) (by decide) (by decide) (by decide) (by decide) (by decide) rfl (Nat.le_of_ble_eq_true rfl) N111 (Nat.le_trans Z0 z116) (g := (mkF m 68 #[.val (.ref a), .val (.int x), .val (.int (-3 : Int32)), .val (.int (2 : Int32))] [(.int (0 : Int32)), (.int (3 : Int32)), (.ref kt2_112), (.int (2 : Int32)), (.ref kt2_112)])) rfl (by rw [hml]; rfl) (rest := []) rfl (hb hby own_d3_68) (by decide) (W := 0) (by show 2 * 0 + _ ≤ _; exact Nat.le_of_eq rfl) (by decide)
    have Vq127 : Arv Z h127 kt2_112 kk2_114 .int (3 : Int32) [(.int k0), (.int k1), (.int (0 : Int32))] (.int (0 : Int32)) := V127
    refine go _ _ (st127) ?_
    show G (T127.setTop (mkF m 71 #[.val (.ref a), .val (.int x), .val (.int (-3 : Int32)), .val (.int (2 : Int32))] []))
    refine go _ _ (fun _ k => XS.aloadN X127.here hx rfl (hb hby own_d3_71) rfl rfl k) ?_
    show G (T127.setTop (mkF m 72 #[.val (.ref a), .val (.int x), .val (.int (-3 : Int32)), .val (.int (2 : Int32))] [(.ref a)]))
    have K129 : Keep T111.heap h127 [kt2_112] := (Keep.refl T111.heap [kt2_112]).trans Kp127 (allS (Or.inl (List.mem_of_getElem? (i := 0) rfl)) all0)
    have F130 : Fld Z h127 a "com/example/hatoyama/hatoyama/IndexSet" "words" "[J" (.ref wt2_113) := (f121.keep K129 (ninS (Nat.ne_of_lt (Nat.lt_of_lt_of_le Ea.lt z116)) nin0))
    obtain ⟨T128, X128, e128, st128⟩ := getF X127 hx hZ hown (host := "") (Or.inl (ow hw 15 rfl)) Via.refl e127 F130 (g := (mkF m 72 #[.val (.ref a), .val (.int x), .val (.int (-3 : Int32)), .val (.int (2 : Int32))] [(.ref a)])) rfl rfl (hb hby own_d3_72)
    refine go _ _ (st128) ?_
    show G (T128.setTop (mkF m 75 #[.val (.ref a), .val (.int x), .val (.int (-3 : Int32)), .val (.int (2 : Int32))] [(.ref wt2_113)]))
    refine go _ _ (fun _ k => XS.iloadN X128.here hx rfl (hb hby own_d3_75) rfl (XS.aloadN X128.here hx rfl (hb hby own_d3_76) rfl rfl k)) ?_
    show G (T128.setTop (mkF m 77 #[.val (.ref a), .val (.int x), .val (.int (-3 : Int32)), .val (.int (2 : Int32))] [(.ref a), (.int (2 : Int32)), (.ref wt2_113)]))
    obtain ⟨T131, X131, e131, st131⟩ := getF X128 hx hZ hown (host := "") (Or.inl (ow hw 15 rfl)) Via.refl e128 F130 (g := (mkF m 77 #[.val (.ref a), .val (.int x), .val (.int (-3 : Int32)), .val (.int (2 : Int32))] [(.ref a), (.int (2 : Int32)), (.ref wt2_113)])) rfl rfl (hb hby own_d3_77)
    refine go _ _ (st131) ?_
    show G (T131.setTop (mkF m 80 #[.val (.ref a), .val (.int x), .val (.int (-3 : Int32)), .val (.int (2 : Int32))] [(.ref wt2_113), (.int (2 : Int32)), (.ref wt2_113)]))
    refine go _ _ (fun _ k => XS.iloadN X131.here hx rfl (hb hby own_d3_80) rfl (XS.iconst X131.here hx rfl (hb hby own_d3_81) (XS.iadd X131.here hx rfl (hb hby own_d3_82) rfl (XS.aloadN X131.here hx rfl (hb hby own_d3_83) rfl rfl k)))) ?_
    show G (T131.setTop (mkF m 84 #[.val (.ref a), .val (.int x), .val (.int (-3 : Int32)), .val (.int (2 : Int32))] [(.ref a), (.int (3 : Int32)), (.ref wt2_113), (.int (2 : Int32)), (.ref wt2_113)]))
    have F133 : Fld Z h127 a "com/example/hatoyama/hatoyama/IndexSet" "used" "I" (.int (2 : Int32)) := (f119.keep K129 (ninS (Nat.ne_of_lt (Nat.lt_of_lt_of_le Ea.lt z116)) nin0))
    obtain ⟨T132, X132, e132, st132⟩ := getF X131 hx hZ hown (host := "") (Or.inl (ow hw 26 rfl)) Via.refl e131 F133 (g := (mkF m 84 #[.val (.ref a), .val (.int x), .val (.int (-3 : Int32)), .val (.int (2 : Int32))] [(.ref a), (.int (3 : Int32)), (.ref wt2_113), (.int (2 : Int32)), (.ref wt2_113)])) rfl rfl (hb hby own_d3_84)
    refine go _ _ (st132) ?_
    show G (T132.setTop (mkF m 87 #[.val (.ref a), .val (.int x), .val (.int (-3 : Int32)), .val (.int (2 : Int32))] [(.int (2 : Int32)), (.int (3 : Int32)), (.ref wt2_113), (.int (2 : Int32)), (.ref wt2_113)]))
    refine go _ _ (fun _ k => XS.iloadN X132.here hx rfl (hb hby own_d3_87) rfl (XS.isub X132.here hx rfl (hb hby own_d3_88) rfl k)) ?_
    show G (T132.setTop (mkF m 89 #[.val (.ref a), .val (.int x), .val (.int (-3 : Int32)), .val (.int (2 : Int32))] [(.int (0 : Int32)), (.int (3 : Int32)), (.ref wt2_113), (.int (2 : Int32)), (.ref wt2_113)]))
    have ne135 : wt2_113 ≠ kt2_112 := own_neA f123 f122 (by decide)
    have F136 : Arv Z h127 wt2_113 kw2_115 .long (3 : Int32) [(.long w0), (.long w1), (.long (0 : Int64))] (.long (0 : Int64)) := (f123.keep K129 (ninS ne135 nin0))
    obtain ⟨T134, h134, L134, X134, e134, N134, Kp134, V134, st134⟩ := cpA X132 hx hZ hown (ow hw 61 rfl) (ow hw 56 rfl) (ow hw 54 rfl) (ow hw 55 rfl) e132 F136 F136 (us := []) (Or.inl ⟨rfl, rfl⟩) (by decide) (by decide) (by decide) (by decide) (by decide) rfl (Nat.le_of_ble_eq_true rfl) N127 (Nat.le_trans Z0 z117) (g := (mkF m 89 #[.val (.ref a), .val (.int x), .val (.int (-3 : Int32)), .val (.int (2 : Int32))] [(.int (0 : Int32)), (.int (3 : Int32)), (.ref wt2_113), (.int (2 : Int32)), (.ref wt2_113)])) rfl (by rw [hml]; rfl) (rest := []) rfl (hb hby own_d3_89) (by decide) (W := 0) (by show 2 * 0 + _ ≤ _; exact Nat.le_of_eq rfl) (by decide)
    have Vq134 : Arv Z h134 wt2_113 kw2_115 .long (3 : Int32) [(.long w0), (.long w1), (.long (0 : Int64))] (.long (0 : Int64)) := V134
    refine go _ _ (st134) ?_
    show G (T134.setTop (mkF m 92 #[.val (.ref a), .val (.int x), .val (.int (-3 : Int32)), .val (.int (2 : Int32))] []))
    refine go _ _ (fun _ k => XS.aloadN X134.here hx rfl (hb hby own_d3_92) rfl rfl k) ?_
    show G (T134.setTop (mkF m 93 #[.val (.ref a), .val (.int x), .val (.int (-3 : Int32)), .val (.int (2 : Int32))] [(.ref a)]))
    have K138 : Keep T111.heap h127 [kt2_112, wt2_113] := (Keep.refl T111.heap [kt2_112, wt2_113]).trans Kp127 (allS (Or.inl (List.mem_of_getElem? (i := 0) rfl)) all0)
    have K139 : Keep T111.heap h134 [kt2_112, wt2_113] := K138.trans Kp134 (allS (Or.inl (List.mem_of_getElem? (i := 1) rfl)) all0)
    have F140 : Fld Z h134 a "com/example/hatoyama/hatoyama/IndexSet" "keys" "[I" (.ref kt2_112) := (f120.keep K139 (ninS (Nat.ne_of_lt (Nat.lt_of_lt_of_le Ea.lt z116)) (ninS (Nat.ne_of_lt (Nat.lt_of_lt_of_le Ea.lt z117)) nin0)))
    obtain ⟨T137, X137, e137, st137⟩ := getF X134 hx hZ hown (host := "") (Or.inl (ow hw 11 rfl)) Via.refl e134 F140 (g := (mkF m 93 #[.val (.ref a), .val (.int x), .val (.int (-3 : Int32)), .val (.int (2 : Int32))] [(.ref a)])) rfl rfl (hb hby own_d3_93)
    refine go _ _ (st137) ?_
    show G (T137.setTop (mkF m 96 #[.val (.ref a), .val (.int x), .val (.int (-3 : Int32)), .val (.int (2 : Int32))] [(.ref kt2_112)]))
    refine go _ _ (fun _ k => XS.iloadN X137.here hx rfl (hb hby own_d3_96) rfl (XS.iloadN X137.here hx rfl (hb hby own_d3_97) rfl (XS.bipush X137.here hx rfl (hb hby own_d3_98) (XS.iushr X137.here hx rfl (hb hby own_d3_100) rfl k)))) ?_
    show G (T137.setTop (mkF m 101 #[.val (.ref a), .val (.int x), .val (.int (-3 : Int32)), .val (.int (2 : Int32))] [(.int ((x.toUInt32 >>> ((6 : Int32) &&& 31).toUInt32).toInt32)), (.int (2 : Int32)), (.ref kt2_112)]))
    have K142 : Keep h127 h134 [wt2_113] := (Keep.refl h127 [wt2_113]).trans Kp134 (allS (Or.inl (List.mem_of_getElem? (i := 0) rfl)) all0)
    have F143 : Arv Z h134 kt2_112 kk2_114 .int (3 : Int32) [(.int k0), (.int k1), (.int (0 : Int32))] (.int (0 : Int32)) := (Vq127.keep K142 (ninS (Ne.symm ne135) nin0))
    obtain ⟨cl141, Ar141, q141, S141, M141, H141, U141⟩ := id F143
    obtain ⟨T141, h141, X141, e141, W141, st141⟩ := stI X137 hx hZ e137 Ar141 (j := (2 : Int32)) (inb_of S141 ⟨by decide, by decide⟩) (g := (mkF m 101 #[.val (.ref a), .val (.int x), .val (.int (-3 : Int32)), .val (.int (2 : Int32))] [(.int ((x.toUInt32 >>> ((6 : Int32) &&& 31).toUInt32).toInt32)), (.int (2 : Int32)), (.ref kt2_112)])) rfl rfl (hb hby own_d3_101)
    have V141 : Arv Z h141 kt2_112 kk2_114 .int (3 : Int32) [(.int k0), (.int k1), (.int ((x.toUInt32 >>> ((6 : Int32) &&& 31).toUInt32).toInt32))] (.int (0 : Int32)) := Arv.set Ar141 q141 S141 M141 H141 U141 rfl W141 2 rfl (Nat.le_of_ble_eq_true rfl)
    have N141 := Fr.snoc X141 N134 (Nat.le_trans Z0 z116)
    refine go _ _ (st141) ?_
    show G (T141.setTop (mkF m 102 #[.val (.ref a), .val (.int x), .val (.int (-3 : Int32)), .val (.int (2 : Int32))] []))
    refine go _ _ (fun _ k => XS.aloadN X141.here hx rfl (hb hby own_d3_102) rfl rfl k) ?_
    show G (T141.setTop (mkF m 103 #[.val (.ref a), .val (.int x), .val (.int (-3 : Int32)), .val (.int (2 : Int32))] [(.ref a)]))
    have K145 : Keep h127 h134 [wt2_113, kt2_112] := (Keep.refl h127 [wt2_113, kt2_112]).trans Kp134 (allS (Or.inl (List.mem_of_getElem? (i := 0) rfl)) all0)
    have K146 : Keep h127 h141 [wt2_113, kt2_112] := K145.wr W141 (Or.inl (List.mem_of_getElem? (i := 1) rfl))
    have F147 : Fld Z h141 a "com/example/hatoyama/hatoyama/IndexSet" "words" "[J" (.ref wt2_113) := (F130.keep K146 (ninS (Nat.ne_of_lt (Nat.lt_of_lt_of_le Ea.lt z117)) (ninS (Nat.ne_of_lt (Nat.lt_of_lt_of_le Ea.lt z116)) nin0)))
    obtain ⟨T144, X144, e144, st144⟩ := getF X141 hx hZ hown (host := "") (Or.inl (ow hw 15 rfl)) Via.refl e141 F147 (g := (mkF m 103 #[.val (.ref a), .val (.int x), .val (.int (-3 : Int32)), .val (.int (2 : Int32))] [(.ref a)])) rfl rfl (hb hby own_d3_103)
    refine go _ _ (st144) ?_
    show G (T144.setTop (mkF m 106 #[.val (.ref a), .val (.int x), .val (.int (-3 : Int32)), .val (.int (2 : Int32))] [(.ref wt2_113)]))
    refine go _ _ (fun _ k => XS.iloadN X144.here hx rfl (hb hby own_d3_106) rfl (XS.lconst X144.here hx rfl (hb hby own_d3_107) (XS.iloadN X144.here hx rfl (hb hby own_d3_108) rfl (XS.lshl X144.here hx rfl (hb hby own_d3_109) rfl k)))) ?_
    show G (T144.setTop (mkF m 110 #[.val (.ref a), .val (.int x), .val (.int (-3 : Int32)), .val (.int (2 : Int32))] [(.long ((1 : Int64) <<< (x &&& 0x3f).toInt64)), (.int (2 : Int32)), (.ref wt2_113)]))
    have K149 : Keep h134 h141 [kt2_112] := (Keep.refl h134 [kt2_112]).wr W141 (Or.inl (List.mem_of_getElem? (i := 0) rfl))
    have F150 : Arv Z h141 wt2_113 kw2_115 .long (3 : Int32) [(.long w0), (.long w1), (.long (0 : Int64))] (.long (0 : Int64)) := (Vq134.keep K149 (ninS ne135 nin0))
    obtain ⟨cl148, Ar148, q148, S148, M148, H148, U148⟩ := id F150
    obtain ⟨T148, h148, X148, e148, W148, st148⟩ := stJ X144 hx hZ e144 Ar148 (j := (2 : Int32)) (inb_of S148 ⟨by decide, by decide⟩) (g := (mkF m 110 #[.val (.ref a), .val (.int x), .val (.int (-3 : Int32)), .val (.int (2 : Int32))] [(.long ((1 : Int64) <<< (x &&& 0x3f).toInt64)), (.int (2 : Int32)), (.ref wt2_113)])) rfl rfl (hb hby own_d3_110)
    have V148 : Arv Z h148 wt2_113 kw2_115 .long (3 : Int32) [(.long w0), (.long w1), (.long ((1 : Int64) <<< (x &&& 0x3f).toInt64))] (.long (0 : Int64)) := Arv.set Ar148 q148 S148 M148 H148 U148 rfl W148 2 rfl (Nat.le_of_ble_eq_true rfl)
    have N148 := Fr.snoc X148 N141 (Nat.le_trans Z0 z117)
    refine go _ _ (st148) ?_
    show G (T148.setTop (mkF m 111 #[.val (.ref a), .val (.int x), .val (.int (-3 : Int32)), .val (.int (2 : Int32))] []))
    refine go _ _ (fun _ k => XS.aloadN X148.here hx rfl (hb hby own_d3_111) rfl rfl (XS.dup X148.here hx rfl (hb hby own_d3_112) rfl rfl k)) ?_
    show G (T148.setTop (mkF m 113 #[.val (.ref a), .val (.int x), .val (.int (-3 : Int32)), .val (.int (2 : Int32))] [(.ref a), (.ref a)]))
    have K152 : Keep h127 h148 [wt2_113, kt2_112] := K146.wr W148 (Or.inl (List.mem_of_getElem? (i := 0) rfl))
    have F153 : Fld Z h148 a "com/example/hatoyama/hatoyama/IndexSet" "used" "I" (.int (2 : Int32)) := (F133.keep K152 (ninS (Nat.ne_of_lt (Nat.lt_of_lt_of_le Ea.lt z117)) (ninS (Nat.ne_of_lt (Nat.lt_of_lt_of_le Ea.lt z116)) nin0)))
    obtain ⟨T151, X151, e151, st151⟩ := getF X148 hx hZ hown (host := "") (Or.inl (ow hw 26 rfl)) Via.refl e148 F153 (g := (mkF m 113 #[.val (.ref a), .val (.int x), .val (.int (-3 : Int32)), .val (.int (2 : Int32))] [(.ref a), (.ref a)])) rfl rfl (hb hby own_d3_113)
    refine go _ _ (st151) ?_
    show G (T151.setTop (mkF m 116 #[.val (.ref a), .val (.int x), .val (.int (-3 : Int32)), .val (.int (2 : Int32))] [(.int (2 : Int32)), (.ref a)]))
    refine go _ _ (fun _ k => XS.iconst X151.here hx rfl (hb hby own_d3_116) (XS.iadd X151.here hx rfl (hb hby own_d3_117) rfl k)) ?_
    show G (T151.setTop (mkF m 118 #[.val (.ref a), .val (.int x), .val (.int (-3 : Int32)), .val (.int (2 : Int32))] [(.int (3 : Int32)), (.ref a)]))
    have K155 : Keep T111.heap h141 [kt2_112, wt2_113] := K139.wr W141 (Or.inl (List.mem_of_getElem? (i := 0) rfl))
    have K156 : Keep T111.heap h148 [kt2_112, wt2_113] := K155.wr W148 (Or.inl (List.mem_of_getElem? (i := 1) rfl))
    have F157 : Exa Z h148 a "com/example/hatoyama/hatoyama/IndexSet" := (f118.keep K156)
    obtain ⟨T154, h154, X154, e154, W154, st154⟩ := putF X151 hx hZ hown (host := "") (Or.inl (ow hw 26 rfl)) Via.refl e151 F153 F157 (Or.inl (ow hw 27 rfl)) (ow hw 1 rfl) (ty := .int) (by decide) rfl rfl (g := (mkF m 118 #[.val (.ref a), .val (.int x), .val (.int (-3 : Int32)), .val (.int (2 : Int32))] [(.int (3 : Int32)), (.ref a)])) rfl rfl (hb hby own_d3_118)
    have K158 : Keep h134 h141 [kt2_112, wt2_113] := (Keep.refl h134 [kt2_112, wt2_113]).wr W141 (Or.inl (List.mem_of_getElem? (i := 0) rfl))
    have K159 : Keep h134 h148 [kt2_112, wt2_113] := K158.wr W148 (Or.inl (List.mem_of_getElem? (i := 1) rfl))
    have F160 : Fld Z h148 a "com/example/hatoyama/hatoyama/IndexSet" "keys" "[I" (.ref kt2_112) := (F140.keep K159 (ninS (Nat.ne_of_lt (Nat.lt_of_lt_of_le Ea.lt z116)) (ninS (Nat.ne_of_lt (Nat.lt_of_lt_of_le Ea.lt z117)) nin0)))
    have K161 : Keep h141 h148 [wt2_113] := (Keep.refl h141 [wt2_113]).wr W148 (Or.inl (List.mem_of_getElem? (i := 0) rfl))
    have F162 : Fld Z h148 a "com/example/hatoyama/hatoyama/IndexSet" "words" "[J" (.ref wt2_113) := (F147.keep K161 (ninS (Nat.ne_of_lt (Nat.lt_of_lt_of_le Ea.lt z117)) nin0))
    have N154 := Fr.snoc X154 N148 gz_a
    refine go _ _ (st154) ?_
    show G (T154.setTop (mkF m 121 #[.val (.ref a), .val (.int x), .val (.int (-3 : Int32)), .val (.int (2 : Int32))] []))
    have K163 : Keep h0 T111.heap [a, wt] := (Keep.refl h0 [a, wt]).trans Kp111 (allS (Or.inl (List.mem_of_getElem? (i := 0) rfl)) all0)
    have K164 : Keep h0 h127 [a, wt] := K163.trans Kp127 (allS (Or.inr z116) all0)
    have K165 : Keep h0 h134 [a, wt] := K164.trans Kp134 (allS (Or.inr z117) all0)
    have K166 : Keep h0 h141 [a, wt] := K165.wr W141 (Or.inr z116)
    have K167 : Keep h0 h148 [a, wt] := K166.wr W148 (Or.inr z117)
    have K168 : Keep h0 h154 [a, wt] := K167.wr W154 (Or.inl (List.mem_of_getElem? (i := 0) rfl))
    have K169 : Keep h141 h148 [wt2_113, a] := (Keep.refl h141 [wt2_113, a]).wr W148 (Or.inl (List.mem_of_getElem? (i := 0) rfl))
    have K170 : Keep h141 h154 [wt2_113, a] := K169.wr W154 (Or.inl (List.mem_of_getElem? (i := 1) rfl))
    have F171 : Arv Z h154 kt2_112 kk2_114 .int (3 : Int32) [(.int k0), (.int k1), (.int ((x.toUInt32 >>> ((6 : Int32) &&& 31).toUInt32).toInt32))] (.int (0 : Int32)) := (V141.keep K170 (ninS (Ne.symm ne135) (ninS (Ne.symm (Nat.ne_of_lt (Nat.lt_of_lt_of_le Ea.lt z116))) nin0)))
    have K172 : Keep h148 h154 [a] := (Keep.refl h148 [a]).wr W154 (Or.inl (List.mem_of_getElem? (i := 0) rfl))
    have F173 : Arv Z h154 wt2_113 kw2_115 .long (3 : Int32) [(.long w0), (.long w1), (.long ((1 : Int64) <<< (x &&& 0x3f).toInt64))] (.long (0 : Int64)) := (V148.keep K172 (ninS (Ne.symm (Nat.ne_of_lt (Nat.lt_of_lt_of_le Ea.lt z117))) nin0))
    refine fin T154 _ _ _ none X154 (fun _ => rfl) (by decide) (by decide) (by rw [e154]; exact ⟨N154, K168, (Or.inr ⟨kt2_112, wt2_113, kk2_114, kw2_115, k0, k1, ((x.toUInt32 >>> ((6 : Int32) &&& 31).toUInt32).toInt32), w0, w1, ((1 : Int64) <<< (x &&& 0x3f).toInt64), rfl, z116, z117, (own_srt3 (own_srt_lt hs (i := 0) (j := 1) (p := (k0, w0)) (q := (k1, w1)) rfl rfl (by decide)) p104 (own_srtm hs (i := 0) (p := (k0, w0)) rfl) (own_srtm hs (i := 1) (p := (k1, w1)) rfl) ⟨x, rfl⟩), (own_add_ins [(k0, w0), (k1, w1)] [] x), (F157.wr W154), (F153.same W154), (F160.other W154 (Or.inr (RoadKit.slot_ne (t := (.array .int)) (t' := .int) (Or.inl (ow hw 12 rfl)) (Or.inl (ow hw 27 rfl)) (by decide) (by decide) (by decide)))), (F162.other W154 (Or.inr (RoadKit.slot_ne (t := (.array .long)) (t' := .int) (Or.inl (ow hw 16 rfl)) (Or.inl (ow hw 27 rfl)) (by decide) (by decide) (by decide)))), F171, F173⟩)⟩) _ (own_retV X154 hx hret (hb hby own_d3_121))
  · refine go _ _ (st103) ?_
    show G (T103.setTop (mkF m 16 #[.val (.ref a), .val (.int x), .unset, .unset] [(.int (-2 : Int32))]))
    refine go _ _ (fun _ k => XS.istoreN X103.here hx rfl (hb hby own_d3_16) rfl (l' := #[.val (.ref a), .val (.int x), .val (.int (-2 : Int32)), .unset]) rfl (XS.iloadN X103.here hx rfl (hb hby own_d3_17) rfl k)) ?_
    show G (T103.setTop (mkF m 18 #[.val (.ref a), .val (.int x), .val (.int (-2 : Int32)), .unset] [(.int (-2 : Int32))]))
    refine go _ _ (fun _ k => XS.ifYes X103.here hx rfl (pc0 := 18) (pc' := 36) rfl (hb hby own_d3_18) rfl (by decide) (by decide) (by decide) k) ?_
    show G (T103.setTop (mkF m 36 #[.val (.ref a), .val (.int x), .val (.int (-2 : Int32)), .unset] []))
    refine go _ _ (fun _ k => XS.iconst X103.here hx rfl (hb hby own_d3_36) (XS.iloadN X103.here hx rfl (hb hby own_d3_37) rfl (XS.isub X103.here hx rfl (hb hby own_d3_38) rfl (XS.istoreN X103.here hx rfl (hb hby own_d3_39) rfl (l' := #[.val (.ref a), .val (.int x), .val (.int (-2 : Int32)), .val (.int (1 : Int32))]) rfl (XS.aloadN X103.here hx rfl (hb hby own_d3_40) rfl rfl (XS.aloadN X103.here hx rfl (hb hby own_d3_41) rfl rfl k)))))) ?_
    show G (T103.setTop (mkF m 42 #[.val (.ref a), .val (.int x), .val (.int (-2 : Int32)), .val (.int (1 : Int32))] [(.ref a), (.ref a)]))
    obtain ⟨T174, X174, e174, st174⟩ := getF X103 hx hZ hown (host := "") (Or.inl (ow hw 26 rfl)) Via.refl e103 Fu (g := (mkF m 42 #[.val (.ref a), .val (.int x), .val (.int (-2 : Int32)), .val (.int (1 : Int32))] [(.ref a), (.ref a)])) rfl rfl (hb hby own_d3_42)
    refine go _ _ (st174) ?_
    show G (T174.setTop (mkF m 45 #[.val (.ref a), .val (.int x), .val (.int (-2 : Int32)), .val (.int (1 : Int32))] [(.int (2 : Int32)), (.ref a)]))
    refine go _ _ (fun _ k => XS.iconst X174.here hx rfl (hb hby own_d3_45) (XS.iadd X174.here hx rfl (hb hby own_d3_46) rfl k)) ?_
    show G (T174.setTop (mkF m 47 #[.val (.ref a), .val (.int x), .val (.int (-2 : Int32)), .val (.int (1 : Int32))] [(.int (3 : Int32)), (.ref a)]))
    obtain ⟨rv175, T175, L175, X175, q175, st175⟩ := own_pr X174 hx hZ (y := (⟨"com/example/hatoyama/hatoyama/IndexSet", "room", "(I)V"⟩ : MethodName)) hown (ow hw 38 rfl) (ow hw 39 rfl) (own_selfp (y := (⟨"com/example/hatoyama/hatoyama/IndexSet", "room", "(I)V"⟩ : MethodName)) (ow hw 40 rfl) (ow hw 39 rfl) (ow hw 1 rfl) (by decide)) (ow hw 40 rfl) (ow hw 41 rfl) (by decide) (own_bkN (W := 0) (rmRoom2 l Z a0 hw nk kk0 O_nk V_nk nw kw0 O_nw V_nw [] a kt wt kk k0 k1 kw w0 w1 h0 n0 Z0 Xo Ea Fk Fw Fu Ak Aw gz_a) hZ (ow hw 41 rfl) (ow hw 2 rfl) (by decide) (by decide)) e174 Ea (g := (mkF m 47 #[.val (.ref a), .val (.int x), .val (.int (-2 : Int32)), .val (.int (1 : Int32))] [(.int (3 : Int32)), (.ref a)])) rfl (by rw [hml]; rfl) (argsL := [(.int (3 : Int32))]) (rest := []) rfl (lenOf own_pd5 rfl) rfl (by show 2 * 0 + _ ≤ _; exact Nat.le_of_eq rfl) (hb hby own_d3_47) (by decide) (by decide)
    obtain ⟨Nq175, Kp175, ⟨kt2_176, wt2_177, kk2_178, kw2_179, rfl, z180, z181, f182, f183, f184, f185, f186, f187⟩⟩ := q175
    have N175 := Fr.app N103 Nq175
    refine go _ _ (st175) ?_
    show G (T175.setTop (mkF m 50 #[.val (.ref a), .val (.int x), .val (.int (-2 : Int32)), .val (.int (1 : Int32))] []))
    refine go _ _ (fun _ k => XS.aloadN X175.here hx rfl (hb hby own_d3_50) rfl rfl k) ?_
    show G (T175.setTop (mkF m 51 #[.val (.ref a), .val (.int x), .val (.int (-2 : Int32)), .val (.int (1 : Int32))] [(.ref a)]))
    obtain ⟨T188, X188, e188, st188⟩ := getF X175 hx hZ hown (host := "") (Or.inl (ow hw 11 rfl)) Via.refl rfl f184 (g := (mkF m 51 #[.val (.ref a), .val (.int x), .val (.int (-2 : Int32)), .val (.int (1 : Int32))] [(.ref a)])) rfl rfl (hb hby own_d3_51)
    refine go _ _ (st188) ?_
    show G (T188.setTop (mkF m 54 #[.val (.ref a), .val (.int x), .val (.int (-2 : Int32)), .val (.int (1 : Int32))] [(.ref kt2_176)]))
    refine go _ _ (fun _ k => XS.iloadN X188.here hx rfl (hb hby own_d3_54) rfl (XS.aloadN X188.here hx rfl (hb hby own_d3_55) rfl rfl k)) ?_
    show G (T188.setTop (mkF m 56 #[.val (.ref a), .val (.int x), .val (.int (-2 : Int32)), .val (.int (1 : Int32))] [(.ref a), (.int (1 : Int32)), (.ref kt2_176)]))
    obtain ⟨T189, X189, e189, st189⟩ := getF X188 hx hZ hown (host := "") (Or.inl (ow hw 11 rfl)) Via.refl e188 f184 (g := (mkF m 56 #[.val (.ref a), .val (.int x), .val (.int (-2 : Int32)), .val (.int (1 : Int32))] [(.ref a), (.int (1 : Int32)), (.ref kt2_176)])) rfl rfl (hb hby own_d3_56)
    refine go _ _ (st189) ?_
    show G (T189.setTop (mkF m 59 #[.val (.ref a), .val (.int x), .val (.int (-2 : Int32)), .val (.int (1 : Int32))] [(.ref kt2_176), (.int (1 : Int32)), (.ref kt2_176)]))
    refine go _ _ (fun _ k => XS.iloadN X189.here hx rfl (hb hby own_d3_59) rfl (XS.iconst X189.here hx rfl (hb hby own_d3_60) (XS.iadd X189.here hx rfl (hb hby own_d3_61) rfl (XS.aloadN X189.here hx rfl (hb hby own_d3_62) rfl rfl k)))) ?_
    show G (T189.setTop (mkF m 63 #[.val (.ref a), .val (.int x), .val (.int (-2 : Int32)), .val (.int (1 : Int32))] [(.ref a), (.int (2 : Int32)), (.ref kt2_176), (.int (1 : Int32)), (.ref kt2_176)]))
    obtain ⟨T190, X190, e190, st190⟩ := getF X189 hx hZ hown (host := "") (Or.inl (ow hw 26 rfl)) Via.refl e189 f183 (g := (mkF m 63 #[.val (.ref a), .val (.int x), .val (.int (-2 : Int32)), .val (.int (1 : Int32))] [(.ref a), (.int (2 : Int32)), (.ref kt2_176), (.int (1 : Int32)), (.ref kt2_176)])) rfl rfl (hb hby own_d3_63)
    refine go _ _ (st190) ?_
    show G (T190.setTop (mkF m 66 #[.val (.ref a), .val (.int x), .val (.int (-2 : Int32)), .val (.int (1 : Int32))] [(.int (2 : Int32)), (.int (2 : Int32)), (.ref kt2_176), (.int (1 : Int32)), (.ref kt2_176)]))
    refine go _ _ (fun _ k => XS.iloadN X190.here hx rfl (hb hby own_d3_66) rfl (XS.isub X190.here hx rfl (hb hby own_d3_67) rfl k)) ?_
    show G (T190.setTop (mkF m 68 #[.val (.ref a), .val (.int x), .val (.int (-2 : Int32)), .val (.int (1 : Int32))] [(.int (1 : Int32)), (.int (2 : Int32)), (.ref kt2_176), (.int (1 : Int32)), (.ref kt2_176)]))
    obtain ⟨T191, h191, L191, X191, e191, N191, Kp191, V191, st191⟩ := cpA X190 hx hZ hown (ow hw 61 rfl) (ow hw 56 rfl) (ow hw 54 rfl) (ow hw 55 rfl) e190 f186 f186 (us := [(.int k1)]) (Or.inl ⟨rfl, rfl⟩) (by decide) (by decide) (by decide) (by decide) (by decide) rfl (Nat.le_of_ble_eq_true rfl) N175 (Nat.le_trans Z0 z180) (g := (mkF m 68 #[.val (.ref a), .val (.int x), .val (.int (-2 : Int32)), .val (.int (1 : Int32))] [(.int (1 : Int32)), (.int (2 : Int32)), (.ref kt2_176), (.int (1 : Int32)), (.ref kt2_176)])) rfl (by rw [hml]; rfl) (rest := []) rfl (hb hby own_d3_68) (by decide) (W := 0) (by show 2 * 0 + _ ≤ _; exact Nat.le_of_eq rfl) (by decide)
    have Vq191 : Arv Z h191 kt2_176 kk2_178 .int (3 : Int32) [(.int k0), (.int k1), (.int k1)] (.int (0 : Int32)) := V191
    refine go _ _ (st191) ?_
    show G (T191.setTop (mkF m 71 #[.val (.ref a), .val (.int x), .val (.int (-2 : Int32)), .val (.int (1 : Int32))] []))
    refine go _ _ (fun _ k => XS.aloadN X191.here hx rfl (hb hby own_d3_71) rfl rfl k) ?_
    show G (T191.setTop (mkF m 72 #[.val (.ref a), .val (.int x), .val (.int (-2 : Int32)), .val (.int (1 : Int32))] [(.ref a)]))
    have K193 : Keep T175.heap h191 [kt2_176] := (Keep.refl T175.heap [kt2_176]).trans Kp191 (allS (Or.inl (List.mem_of_getElem? (i := 0) rfl)) all0)
    have F194 : Fld Z h191 a "com/example/hatoyama/hatoyama/IndexSet" "words" "[J" (.ref wt2_177) := (f185.keep K193 (ninS (Nat.ne_of_lt (Nat.lt_of_lt_of_le Ea.lt z180)) nin0))
    obtain ⟨T192, X192, e192, st192⟩ := getF X191 hx hZ hown (host := "") (Or.inl (ow hw 15 rfl)) Via.refl e191 F194 (g := (mkF m 72 #[.val (.ref a), .val (.int x), .val (.int (-2 : Int32)), .val (.int (1 : Int32))] [(.ref a)])) rfl rfl (hb hby own_d3_72)
    refine go _ _ (st192) ?_
    show G (T192.setTop (mkF m 75 #[.val (.ref a), .val (.int x), .val (.int (-2 : Int32)), .val (.int (1 : Int32))] [(.ref wt2_177)]))
    refine go _ _ (fun _ k => XS.iloadN X192.here hx rfl (hb hby own_d3_75) rfl (XS.aloadN X192.here hx rfl (hb hby own_d3_76) rfl rfl k)) ?_
    show G (T192.setTop (mkF m 77 #[.val (.ref a), .val (.int x), .val (.int (-2 : Int32)), .val (.int (1 : Int32))] [(.ref a), (.int (1 : Int32)), (.ref wt2_177)]))
    obtain ⟨T195, X195, e195, st195⟩ := getF X192 hx hZ hown (host := "") (Or.inl (ow hw 15 rfl)) Via.refl e192 F194 (g := (mkF m 77 #[.val (.ref a), .val (.int x), .val (.int (-2 : Int32)), .val (.int (1 : Int32))] [(.ref a), (.int (1 : Int32)), (.ref wt2_177)])) rfl rfl (hb hby own_d3_77)
    refine go _ _ (st195) ?_
    show G (T195.setTop (mkF m 80 #[.val (.ref a), .val (.int x), .val (.int (-2 : Int32)), .val (.int (1 : Int32))] [(.ref wt2_177), (.int (1 : Int32)), (.ref wt2_177)]))
    refine go _ _ (fun _ k => XS.iloadN X195.here hx rfl (hb hby own_d3_80) rfl (XS.iconst X195.here hx rfl (hb hby own_d3_81) (XS.iadd X195.here hx rfl (hb hby own_d3_82) rfl (XS.aloadN X195.here hx rfl (hb hby own_d3_83) rfl rfl k)))) ?_
    show G (T195.setTop (mkF m 84 #[.val (.ref a), .val (.int x), .val (.int (-2 : Int32)), .val (.int (1 : Int32))] [(.ref a), (.int (2 : Int32)), (.ref wt2_177), (.int (1 : Int32)), (.ref wt2_177)]))
    have F197 : Fld Z h191 a "com/example/hatoyama/hatoyama/IndexSet" "used" "I" (.int (2 : Int32)) := (f183.keep K193 (ninS (Nat.ne_of_lt (Nat.lt_of_lt_of_le Ea.lt z180)) nin0))
    obtain ⟨T196, X196, e196, st196⟩ := getF X195 hx hZ hown (host := "") (Or.inl (ow hw 26 rfl)) Via.refl e195 F197 (g := (mkF m 84 #[.val (.ref a), .val (.int x), .val (.int (-2 : Int32)), .val (.int (1 : Int32))] [(.ref a), (.int (2 : Int32)), (.ref wt2_177), (.int (1 : Int32)), (.ref wt2_177)])) rfl rfl (hb hby own_d3_84)
    refine go _ _ (st196) ?_
    show G (T196.setTop (mkF m 87 #[.val (.ref a), .val (.int x), .val (.int (-2 : Int32)), .val (.int (1 : Int32))] [(.int (2 : Int32)), (.int (2 : Int32)), (.ref wt2_177), (.int (1 : Int32)), (.ref wt2_177)]))
    refine go _ _ (fun _ k => XS.iloadN X196.here hx rfl (hb hby own_d3_87) rfl (XS.isub X196.here hx rfl (hb hby own_d3_88) rfl k)) ?_
    show G (T196.setTop (mkF m 89 #[.val (.ref a), .val (.int x), .val (.int (-2 : Int32)), .val (.int (1 : Int32))] [(.int (1 : Int32)), (.int (2 : Int32)), (.ref wt2_177), (.int (1 : Int32)), (.ref wt2_177)]))
    have ne199 : wt2_177 ≠ kt2_176 := own_neA f187 f186 (by decide)
    have F200 : Arv Z h191 wt2_177 kw2_179 .long (3 : Int32) [(.long w0), (.long w1), (.long (0 : Int64))] (.long (0 : Int64)) := (f187.keep K193 (ninS ne199 nin0))
    obtain ⟨T198, h198, L198, X198, e198, N198, Kp198, V198, st198⟩ := cpA X196 hx hZ hown (ow hw 61 rfl) (ow hw 56 rfl) (ow hw 54 rfl) (ow hw 55 rfl) e196 F200 F200 (us := [(.long w1)]) (Or.inl ⟨rfl, rfl⟩) (by decide) (by decide) (by decide) (by decide) (by decide) rfl (Nat.le_of_ble_eq_true rfl) N191 (Nat.le_trans Z0 z181) (g := (mkF m 89 #[.val (.ref a), .val (.int x), .val (.int (-2 : Int32)), .val (.int (1 : Int32))] [(.int (1 : Int32)), (.int (2 : Int32)), (.ref wt2_177), (.int (1 : Int32)), (.ref wt2_177)])) rfl (by rw [hml]; rfl) (rest := []) rfl (hb hby own_d3_89) (by decide) (W := 0) (by show 2 * 0 + _ ≤ _; exact Nat.le_of_eq rfl) (by decide)
    have Vq198 : Arv Z h198 wt2_177 kw2_179 .long (3 : Int32) [(.long w0), (.long w1), (.long w1)] (.long (0 : Int64)) := V198
    refine go _ _ (st198) ?_
    show G (T198.setTop (mkF m 92 #[.val (.ref a), .val (.int x), .val (.int (-2 : Int32)), .val (.int (1 : Int32))] []))
    refine go _ _ (fun _ k => XS.aloadN X198.here hx rfl (hb hby own_d3_92) rfl rfl k) ?_
    show G (T198.setTop (mkF m 93 #[.val (.ref a), .val (.int x), .val (.int (-2 : Int32)), .val (.int (1 : Int32))] [(.ref a)]))
    have K202 : Keep T175.heap h191 [kt2_176, wt2_177] := (Keep.refl T175.heap [kt2_176, wt2_177]).trans Kp191 (allS (Or.inl (List.mem_of_getElem? (i := 0) rfl)) all0)
    have K203 : Keep T175.heap h198 [kt2_176, wt2_177] := K202.trans Kp198 (allS (Or.inl (List.mem_of_getElem? (i := 1) rfl)) all0)
    have F204 : Fld Z h198 a "com/example/hatoyama/hatoyama/IndexSet" "keys" "[I" (.ref kt2_176) := (f184.keep K203 (ninS (Nat.ne_of_lt (Nat.lt_of_lt_of_le Ea.lt z180)) (ninS (Nat.ne_of_lt (Nat.lt_of_lt_of_le Ea.lt z181)) nin0)))
    obtain ⟨T201, X201, e201, st201⟩ := getF X198 hx hZ hown (host := "") (Or.inl (ow hw 11 rfl)) Via.refl e198 F204 (g := (mkF m 93 #[.val (.ref a), .val (.int x), .val (.int (-2 : Int32)), .val (.int (1 : Int32))] [(.ref a)])) rfl rfl (hb hby own_d3_93)
    refine go _ _ (st201) ?_
    show G (T201.setTop (mkF m 96 #[.val (.ref a), .val (.int x), .val (.int (-2 : Int32)), .val (.int (1 : Int32))] [(.ref kt2_176)]))
    refine go _ _ (fun _ k => XS.iloadN X201.here hx rfl (hb hby own_d3_96) rfl (XS.iloadN X201.here hx rfl (hb hby own_d3_97) rfl (XS.bipush X201.here hx rfl (hb hby own_d3_98) (XS.iushr X201.here hx rfl (hb hby own_d3_100) rfl k)))) ?_
    show G (T201.setTop (mkF m 101 #[.val (.ref a), .val (.int x), .val (.int (-2 : Int32)), .val (.int (1 : Int32))] [(.int ((x.toUInt32 >>> ((6 : Int32) &&& 31).toUInt32).toInt32)), (.int (1 : Int32)), (.ref kt2_176)]))
    have K206 : Keep h191 h198 [wt2_177] := (Keep.refl h191 [wt2_177]).trans Kp198 (allS (Or.inl (List.mem_of_getElem? (i := 0) rfl)) all0)
    have F207 : Arv Z h198 kt2_176 kk2_178 .int (3 : Int32) [(.int k0), (.int k1), (.int k1)] (.int (0 : Int32)) := (Vq191.keep K206 (ninS (Ne.symm ne199) nin0))
    obtain ⟨cl205, Ar205, q205, S205, M205, H205, U205⟩ := id F207
    obtain ⟨T205, h205, X205, e205, W205, st205⟩ := stI X201 hx hZ e201 Ar205 (j := (1 : Int32)) (inb_of S205 ⟨by decide, by decide⟩) (g := (mkF m 101 #[.val (.ref a), .val (.int x), .val (.int (-2 : Int32)), .val (.int (1 : Int32))] [(.int ((x.toUInt32 >>> ((6 : Int32) &&& 31).toUInt32).toInt32)), (.int (1 : Int32)), (.ref kt2_176)])) rfl rfl (hb hby own_d3_101)
    have V205 : Arv Z h205 kt2_176 kk2_178 .int (3 : Int32) [(.int k0), (.int ((x.toUInt32 >>> ((6 : Int32) &&& 31).toUInt32).toInt32)), (.int k1)] (.int (0 : Int32)) := Arv.set Ar205 q205 S205 M205 H205 U205 rfl W205 1 rfl (Nat.le_of_ble_eq_true rfl)
    have N205 := Fr.snoc X205 N198 (Nat.le_trans Z0 z180)
    refine go _ _ (st205) ?_
    show G (T205.setTop (mkF m 102 #[.val (.ref a), .val (.int x), .val (.int (-2 : Int32)), .val (.int (1 : Int32))] []))
    refine go _ _ (fun _ k => XS.aloadN X205.here hx rfl (hb hby own_d3_102) rfl rfl k) ?_
    show G (T205.setTop (mkF m 103 #[.val (.ref a), .val (.int x), .val (.int (-2 : Int32)), .val (.int (1 : Int32))] [(.ref a)]))
    have K209 : Keep h191 h198 [wt2_177, kt2_176] := (Keep.refl h191 [wt2_177, kt2_176]).trans Kp198 (allS (Or.inl (List.mem_of_getElem? (i := 0) rfl)) all0)
    have K210 : Keep h191 h205 [wt2_177, kt2_176] := K209.wr W205 (Or.inl (List.mem_of_getElem? (i := 1) rfl))
    have F211 : Fld Z h205 a "com/example/hatoyama/hatoyama/IndexSet" "words" "[J" (.ref wt2_177) := (F194.keep K210 (ninS (Nat.ne_of_lt (Nat.lt_of_lt_of_le Ea.lt z181)) (ninS (Nat.ne_of_lt (Nat.lt_of_lt_of_le Ea.lt z180)) nin0)))
    obtain ⟨T208, X208, e208, st208⟩ := getF X205 hx hZ hown (host := "") (Or.inl (ow hw 15 rfl)) Via.refl e205 F211 (g := (mkF m 103 #[.val (.ref a), .val (.int x), .val (.int (-2 : Int32)), .val (.int (1 : Int32))] [(.ref a)])) rfl rfl (hb hby own_d3_103)
    refine go _ _ (st208) ?_
    show G (T208.setTop (mkF m 106 #[.val (.ref a), .val (.int x), .val (.int (-2 : Int32)), .val (.int (1 : Int32))] [(.ref wt2_177)]))
    refine go _ _ (fun _ k => XS.iloadN X208.here hx rfl (hb hby own_d3_106) rfl (XS.lconst X208.here hx rfl (hb hby own_d3_107) (XS.iloadN X208.here hx rfl (hb hby own_d3_108) rfl (XS.lshl X208.here hx rfl (hb hby own_d3_109) rfl k)))) ?_
    show G (T208.setTop (mkF m 110 #[.val (.ref a), .val (.int x), .val (.int (-2 : Int32)), .val (.int (1 : Int32))] [(.long ((1 : Int64) <<< (x &&& 0x3f).toInt64)), (.int (1 : Int32)), (.ref wt2_177)]))
    have K213 : Keep h198 h205 [kt2_176] := (Keep.refl h198 [kt2_176]).wr W205 (Or.inl (List.mem_of_getElem? (i := 0) rfl))
    have F214 : Arv Z h205 wt2_177 kw2_179 .long (3 : Int32) [(.long w0), (.long w1), (.long w1)] (.long (0 : Int64)) := (Vq198.keep K213 (ninS ne199 nin0))
    obtain ⟨cl212, Ar212, q212, S212, M212, H212, U212⟩ := id F214
    obtain ⟨T212, h212, X212, e212, W212, st212⟩ := stJ X208 hx hZ e208 Ar212 (j := (1 : Int32)) (inb_of S212 ⟨by decide, by decide⟩) (g := (mkF m 110 #[.val (.ref a), .val (.int x), .val (.int (-2 : Int32)), .val (.int (1 : Int32))] [(.long ((1 : Int64) <<< (x &&& 0x3f).toInt64)), (.int (1 : Int32)), (.ref wt2_177)])) rfl rfl (hb hby own_d3_110)
    have V212 : Arv Z h212 wt2_177 kw2_179 .long (3 : Int32) [(.long w0), (.long ((1 : Int64) <<< (x &&& 0x3f).toInt64)), (.long w1)] (.long (0 : Int64)) := Arv.set Ar212 q212 S212 M212 H212 U212 rfl W212 1 rfl (Nat.le_of_ble_eq_true rfl)
    have N212 := Fr.snoc X212 N205 (Nat.le_trans Z0 z181)
    refine go _ _ (st212) ?_
    show G (T212.setTop (mkF m 111 #[.val (.ref a), .val (.int x), .val (.int (-2 : Int32)), .val (.int (1 : Int32))] []))
    refine go _ _ (fun _ k => XS.aloadN X212.here hx rfl (hb hby own_d3_111) rfl rfl (XS.dup X212.here hx rfl (hb hby own_d3_112) rfl rfl k)) ?_
    show G (T212.setTop (mkF m 113 #[.val (.ref a), .val (.int x), .val (.int (-2 : Int32)), .val (.int (1 : Int32))] [(.ref a), (.ref a)]))
    have K216 : Keep h191 h212 [wt2_177, kt2_176] := K210.wr W212 (Or.inl (List.mem_of_getElem? (i := 0) rfl))
    have F217 : Fld Z h212 a "com/example/hatoyama/hatoyama/IndexSet" "used" "I" (.int (2 : Int32)) := (F197.keep K216 (ninS (Nat.ne_of_lt (Nat.lt_of_lt_of_le Ea.lt z181)) (ninS (Nat.ne_of_lt (Nat.lt_of_lt_of_le Ea.lt z180)) nin0)))
    obtain ⟨T215, X215, e215, st215⟩ := getF X212 hx hZ hown (host := "") (Or.inl (ow hw 26 rfl)) Via.refl e212 F217 (g := (mkF m 113 #[.val (.ref a), .val (.int x), .val (.int (-2 : Int32)), .val (.int (1 : Int32))] [(.ref a), (.ref a)])) rfl rfl (hb hby own_d3_113)
    refine go _ _ (st215) ?_
    show G (T215.setTop (mkF m 116 #[.val (.ref a), .val (.int x), .val (.int (-2 : Int32)), .val (.int (1 : Int32))] [(.int (2 : Int32)), (.ref a)]))
    refine go _ _ (fun _ k => XS.iconst X215.here hx rfl (hb hby own_d3_116) (XS.iadd X215.here hx rfl (hb hby own_d3_117) rfl k)) ?_
    show G (T215.setTop (mkF m 118 #[.val (.ref a), .val (.int x), .val (.int (-2 : Int32)), .val (.int (1 : Int32))] [(.int (3 : Int32)), (.ref a)]))
    have K219 : Keep T175.heap h205 [kt2_176, wt2_177] := K203.wr W205 (Or.inl (List.mem_of_getElem? (i := 0) rfl))
    have K220 : Keep T175.heap h212 [kt2_176, wt2_177] := K219.wr W212 (Or.inl (List.mem_of_getElem? (i := 1) rfl))
    have F221 : Exa Z h212 a "com/example/hatoyama/hatoyama/IndexSet" := (f182.keep K220)
    obtain ⟨T218, h218, X218, e218, W218, st218⟩ := putF X215 hx hZ hown (host := "") (Or.inl (ow hw 26 rfl)) Via.refl e215 F217 F221 (Or.inl (ow hw 27 rfl)) (ow hw 1 rfl) (ty := .int) (by decide) rfl rfl (g := (mkF m 118 #[.val (.ref a), .val (.int x), .val (.int (-2 : Int32)), .val (.int (1 : Int32))] [(.int (3 : Int32)), (.ref a)])) rfl rfl (hb hby own_d3_118)
    have K222 : Keep h198 h205 [kt2_176, wt2_177] := (Keep.refl h198 [kt2_176, wt2_177]).wr W205 (Or.inl (List.mem_of_getElem? (i := 0) rfl))
    have K223 : Keep h198 h212 [kt2_176, wt2_177] := K222.wr W212 (Or.inl (List.mem_of_getElem? (i := 1) rfl))
    have F224 : Fld Z h212 a "com/example/hatoyama/hatoyama/IndexSet" "keys" "[I" (.ref kt2_176) := (F204.keep K223 (ninS (Nat.ne_of_lt (Nat.lt_of_lt_of_le Ea.lt z180)) (ninS (Nat.ne_of_lt (Nat.lt_of_lt_of_le Ea.lt z181)) nin0)))
    have K225 : Keep h205 h212 [wt2_177] := (Keep.refl h205 [wt2_177]).wr W212 (Or.inl (List.mem_of_getElem? (i := 0) rfl))
    have F226 : Fld Z h212 a "com/example/hatoyama/hatoyama/IndexSet" "words" "[J" (.ref wt2_177) := (F211.keep K225 (ninS (Nat.ne_of_lt (Nat.lt_of_lt_of_le Ea.lt z181)) nin0))
    have N218 := Fr.snoc X218 N212 gz_a
    refine go _ _ (st218) ?_
    show G (T218.setTop (mkF m 121 #[.val (.ref a), .val (.int x), .val (.int (-2 : Int32)), .val (.int (1 : Int32))] []))
    have K227 : Keep h0 T175.heap [a, wt] := (Keep.refl h0 [a, wt]).trans Kp175 (allS (Or.inl (List.mem_of_getElem? (i := 0) rfl)) all0)
    have K228 : Keep h0 h191 [a, wt] := K227.trans Kp191 (allS (Or.inr z180) all0)
    have K229 : Keep h0 h198 [a, wt] := K228.trans Kp198 (allS (Or.inr z181) all0)
    have K230 : Keep h0 h205 [a, wt] := K229.wr W205 (Or.inr z180)
    have K231 : Keep h0 h212 [a, wt] := K230.wr W212 (Or.inr z181)
    have K232 : Keep h0 h218 [a, wt] := K231.wr W218 (Or.inl (List.mem_of_getElem? (i := 0) rfl))
    have K233 : Keep h205 h212 [wt2_177, a] := (Keep.refl h205 [wt2_177, a]).wr W212 (Or.inl (List.mem_of_getElem? (i := 0) rfl))
    have K234 : Keep h205 h218 [wt2_177, a] := K233.wr W218 (Or.inl (List.mem_of_getElem? (i := 1) rfl))
    have F235 : Arv Z h218 kt2_176 kk2_178 .int (3 : Int32) [(.int k0), (.int ((x.toUInt32 >>> ((6 : Int32) &&& 31).toUInt32).toInt32)), (.int k1)] (.int (0 : Int32)) := (V205.keep K234 (ninS (Ne.symm ne199) (ninS (Ne.symm (Nat.ne_of_lt (Nat.lt_of_lt_of_le Ea.lt z180))) nin0)))
    have K236 : Keep h212 h218 [a] := (Keep.refl h212 [a]).wr W218 (Or.inl (List.mem_of_getElem? (i := 0) rfl))
    have F237 : Arv Z h218 wt2_177 kw2_179 .long (3 : Int32) [(.long w0), (.long ((1 : Int64) <<< (x &&& 0x3f).toInt64)), (.long w1)] (.long (0 : Int64)) := (V212.keep K236 (ninS (Ne.symm (Nat.ne_of_lt (Nat.lt_of_lt_of_le Ea.lt z181))) nin0))
    refine fin T218 _ _ _ none X218 (fun _ => rfl) (by decide) (by decide) (by rw [e218]; exact ⟨N218, K232, (Or.inr ⟨kt2_176, wt2_177, kk2_178, kw2_179, k0, ((x.toUInt32 >>> ((6 : Int32) &&& 31).toUInt32).toInt32), k1, w0, ((1 : Int64) <<< (x &&& 0x3f).toInt64), w1, rfl, z180, z181, (own_srt3 p105 p106 (own_srtm hs (i := 0) (p := (k0, w0)) rfl) ⟨x, rfl⟩ (own_srtm hs (i := 1) (p := (k1, w1)) rfl)), (own_add_ins [(k0, w0)] [(k1, w1)] x), (F221.wr W218), (F217.same W218), (F224.other W218 (Or.inr (RoadKit.slot_ne (t := (.array .int)) (t' := .int) (Or.inl (ow hw 12 rfl)) (Or.inl (ow hw 27 rfl)) (by decide) (by decide) (by decide)))), (F226.other W218 (Or.inr (RoadKit.slot_ne (t := (.array .long)) (t' := .int) (Or.inl (ow hw 16 rfl)) (Or.inl (ow hw 27 rfl)) (by decide) (by decide) (by decide)))), F235, F237⟩)⟩) _ (own_retV X218 hx hret (hb hby own_d3_121))
  · refine go _ _ (st103) ?_
    show G (T103.setTop (mkF m 16 #[.val (.ref a), .val (.int x), .unset, .unset] [(.int (1 : Int32))]))
    refine go _ _ (fun _ k => XS.istoreN X103.here hx rfl (hb hby own_d3_16) rfl (l' := #[.val (.ref a), .val (.int x), .val (.int (1 : Int32)), .unset]) rfl (XS.iloadN X103.here hx rfl (hb hby own_d3_17) rfl k)) ?_
    show G (T103.setTop (mkF m 18 #[.val (.ref a), .val (.int x), .val (.int (1 : Int32)), .unset] [(.int (1 : Int32))]))
    refine go _ _ (fun _ k => XS.ifNo X103.here hx rfl (hb hby own_d3_18) rfl (by decide) k) ?_
    show G (T103.setTop (mkF m 21 #[.val (.ref a), .val (.int x), .val (.int (1 : Int32)), .unset] []))
    refine go _ _ (fun _ k => XS.aloadN X103.here hx rfl (hb hby own_d3_21) rfl rfl k) ?_
    show G (T103.setTop (mkF m 22 #[.val (.ref a), .val (.int x), .val (.int (1 : Int32)), .unset] [(.ref a)]))
    obtain ⟨T238, X238, e238, st238⟩ := getF X103 hx hZ hown (host := "") (Or.inl (ow hw 15 rfl)) Via.refl e103 Fw (g := (mkF m 22 #[.val (.ref a), .val (.int x), .val (.int (1 : Int32)), .unset] [(.ref a)])) rfl rfl (hb hby own_d3_22)
    refine go _ _ (st238) ?_
    show G (T238.setTop (mkF m 25 #[.val (.ref a), .val (.int x), .val (.int (1 : Int32)), .unset] [(.ref wt)]))
    refine go _ _ (fun _ k => XS.iloadN X238.here hx rfl (hb hby own_d3_25) rfl (XT.dup2 X238.here hx rfl (hb hby own_d3_26) rfl rfl rfl k)) ?_
    show G (T238.setTop (mkF m 27 #[.val (.ref a), .val (.int x), .val (.int (1 : Int32)), .unset] [(.int (1 : Int32)), (.ref wt), (.int (1 : Int32)), (.ref wt)]))
    obtain ⟨cl239, Ar239, q239, S239, M239, H239, U239⟩ := id Aw
    refine go _ _ (fun _ k => X238.laload hx (j := (1 : Int32)) (v := (.long w1)) (by rw [e238]; exact Ar239.1) (State.isArrayOf_alike hZ.alike Ar239.2.1) Ar239.2.2 (inb_of S239 ⟨by decide, by decide⟩) (Has.at H239 (inb_of S239 ⟨by decide, by decide⟩) rfl) (g := (mkF m 27 #[.val (.ref a), .val (.int x), .val (.int (1 : Int32)), .unset] [(.int (1 : Int32)), (.ref wt), (.int (1 : Int32)), (.ref wt)])) rfl rfl (hb hby own_d3_27) _ k) ?_
    show G (T238.setTop (mkF m 28 #[.val (.ref a), .val (.int x), .val (.int (1 : Int32)), .unset] [(.long w1), (.int (1 : Int32)), (.ref wt)]))
    refine go _ _ (fun _ k => XS.lconst X238.here hx rfl (hb hby own_d3_28) (XS.iloadN X238.here hx rfl (hb hby own_d3_29) rfl (XS.lshl X238.here hx rfl (hb hby own_d3_30) rfl (XS.lor X238.here hx rfl (hb hby own_d3_31) rfl k)))) ?_
    show G (T238.setTop (mkF m 32 #[.val (.ref a), .val (.int x), .val (.int (1 : Int32)), .unset] [(.long (w1 ||| ((1 : Int64) <<< (x &&& 0x3f).toInt64))), (.int (1 : Int32)), (.ref wt)]))
    obtain ⟨cl240, Ar240, q240, S240, M240, H240, U240⟩ := id Aw
    obtain ⟨T240, h240, X240, e240, W240, st240⟩ := stJ X238 hx hZ e238 Ar240 (j := (1 : Int32)) (inb_of S240 ⟨by decide, by decide⟩) (g := (mkF m 32 #[.val (.ref a), .val (.int x), .val (.int (1 : Int32)), .unset] [(.long (w1 ||| ((1 : Int64) <<< (x &&& 0x3f).toInt64))), (.int (1 : Int32)), (.ref wt)])) rfl rfl (hb hby own_d3_32)
    have V240 : Arv Z h240 wt kw .long (2 : Int32) [(.long w0), (.long (w1 ||| ((1 : Int64) <<< (x &&& 0x3f).toInt64)))] (.long (0 : Int64)) := Arv.set Ar240 q240 S240 M240 H240 U240 rfl W240 1 rfl (Nat.le_of_ble_eq_true rfl)
    have N240 := Fr.snoc X240 N103 gz_wt
    refine go _ _ (st240) ?_
    show G (T240.setTop (mkF m 33 #[.val (.ref a), .val (.int x), .val (.int (1 : Int32)), .unset] []))
    refine go _ _ (fun _ k => XS.goto X240.here hx rfl (pc0 := 33) (pc' := 121) rfl (hb hby own_d3_33) (by decide) (by decide) k) ?_
    show G (T240.setTop (mkF m 121 #[.val (.ref a), .val (.int x), .val (.int (1 : Int32)), .unset] []))
    have K241 : Keep h0 h240 [a, wt] := (Keep.refl h0 [a, wt]).wr W240 (Or.inl (List.mem_of_getElem? (i := 1) rfl))
    have K242 : Keep h0 h240 [wt] := (Keep.refl h0 [wt]).wr W240 (Or.inl (List.mem_of_getElem? (i := 0) rfl))
    have F243 : Exa Z h240 a "com/example/hatoyama/hatoyama/IndexSet" := (Ea.keep K242)
    have F244 : Fld Z h240 a "com/example/hatoyama/hatoyama/IndexSet" "used" "I" (.int (2 : Int32)) := (Fu.keep K242 (ninS (Exa.neArv Ea Aw (ow hw 1 rfl)) nin0))
    have F245 : Fld Z h240 a "com/example/hatoyama/hatoyama/IndexSet" "keys" "[I" (.ref kt) := (Fk.keep K242 (ninS (Exa.neArv Ea Aw (ow hw 1 rfl)) nin0))
    have F246 : Fld Z h240 a "com/example/hatoyama/hatoyama/IndexSet" "words" "[J" (.ref wt) := (Fw.keep K242 (ninS (Exa.neArv Ea Aw (ow hw 1 rfl)) nin0))
    have F247 : Arv Z h240 kt kk .int (2 : Int32) [(.int k0), (.int k1)] (.int (0 : Int32)) := (Ak.keep K242 (ninS (own_neA Ak Aw (by decide)) nin0))
    refine fin T240 _ _ _ none X240 (fun _ => rfl) (by decide) (by decide) (by rw [e240]; exact ⟨N240, K241, (Or.inl ⟨w0, (w1 ||| ((1 : Int64) <<< (x &&& 0x3f).toInt64)), rfl, (own_srt2 (own_srt_lt hs (i := 0) (j := 1) (p := (k0, w0)) (q := (k1, w1)) rfl rfl (by decide)) (own_srtm hs (i := 0) (p := (k0, w0)) rfl) (own_srtm hs (i := 1) (p := (k1, w1)) rfl)), (own_add_or [(k0, w0)] [] k1 w1 x p107), F243, F244, F245, F246, F247, V240⟩)⟩) _ (own_retV X240 hx hret (hb hby own_d3_121))
  · refine go _ _ (st103) ?_
    show G (T103.setTop (mkF m 16 #[.val (.ref a), .val (.int x), .unset, .unset] [(.int (-1 : Int32))]))
    refine go _ _ (fun _ k => XS.istoreN X103.here hx rfl (hb hby own_d3_16) rfl (l' := #[.val (.ref a), .val (.int x), .val (.int (-1 : Int32)), .unset]) rfl (XS.iloadN X103.here hx rfl (hb hby own_d3_17) rfl k)) ?_
    show G (T103.setTop (mkF m 18 #[.val (.ref a), .val (.int x), .val (.int (-1 : Int32)), .unset] [(.int (-1 : Int32))]))
    refine go _ _ (fun _ k => XS.ifYes X103.here hx rfl (pc0 := 18) (pc' := 36) rfl (hb hby own_d3_18) rfl (by decide) (by decide) (by decide) k) ?_
    show G (T103.setTop (mkF m 36 #[.val (.ref a), .val (.int x), .val (.int (-1 : Int32)), .unset] []))
    refine go _ _ (fun _ k => XS.iconst X103.here hx rfl (hb hby own_d3_36) (XS.iloadN X103.here hx rfl (hb hby own_d3_37) rfl (XS.isub X103.here hx rfl (hb hby own_d3_38) rfl (XS.istoreN X103.here hx rfl (hb hby own_d3_39) rfl (l' := #[.val (.ref a), .val (.int x), .val (.int (-1 : Int32)), .val (.int (0 : Int32))]) rfl (XS.aloadN X103.here hx rfl (hb hby own_d3_40) rfl rfl (XS.aloadN X103.here hx rfl (hb hby own_d3_41) rfl rfl k)))))) ?_
    show G (T103.setTop (mkF m 42 #[.val (.ref a), .val (.int x), .val (.int (-1 : Int32)), .val (.int (0 : Int32))] [(.ref a), (.ref a)]))
    obtain ⟨T248, X248, e248, st248⟩ := getF X103 hx hZ hown (host := "") (Or.inl (ow hw 26 rfl)) Via.refl e103 Fu (g := (mkF m 42 #[.val (.ref a), .val (.int x), .val (.int (-1 : Int32)), .val (.int (0 : Int32))] [(.ref a), (.ref a)])) rfl rfl (hb hby own_d3_42)
    refine go _ _ (st248) ?_
    show G (T248.setTop (mkF m 45 #[.val (.ref a), .val (.int x), .val (.int (-1 : Int32)), .val (.int (0 : Int32))] [(.int (2 : Int32)), (.ref a)]))
    refine go _ _ (fun _ k => XS.iconst X248.here hx rfl (hb hby own_d3_45) (XS.iadd X248.here hx rfl (hb hby own_d3_46) rfl k)) ?_
    show G (T248.setTop (mkF m 47 #[.val (.ref a), .val (.int x), .val (.int (-1 : Int32)), .val (.int (0 : Int32))] [(.int (3 : Int32)), (.ref a)]))
    obtain ⟨rv249, T249, L249, X249, q249, st249⟩ := own_pr X248 hx hZ (y := (⟨"com/example/hatoyama/hatoyama/IndexSet", "room", "(I)V"⟩ : MethodName)) hown (ow hw 38 rfl) (ow hw 39 rfl) (own_selfp (y := (⟨"com/example/hatoyama/hatoyama/IndexSet", "room", "(I)V"⟩ : MethodName)) (ow hw 40 rfl) (ow hw 39 rfl) (ow hw 1 rfl) (by decide)) (ow hw 40 rfl) (ow hw 41 rfl) (by decide) (own_bkN (W := 0) (rmRoom2 l Z a0 hw nk kk0 O_nk V_nk nw kw0 O_nw V_nw [] a kt wt kk k0 k1 kw w0 w1 h0 n0 Z0 Xo Ea Fk Fw Fu Ak Aw gz_a) hZ (ow hw 41 rfl) (ow hw 2 rfl) (by decide) (by decide)) e248 Ea (g := (mkF m 47 #[.val (.ref a), .val (.int x), .val (.int (-1 : Int32)), .val (.int (0 : Int32))] [(.int (3 : Int32)), (.ref a)])) rfl (by rw [hml]; rfl) (argsL := [(.int (3 : Int32))]) (rest := []) rfl (lenOf own_pd5 rfl) rfl (by show 2 * 0 + _ ≤ _; exact Nat.le_of_eq rfl) (hb hby own_d3_47) (by decide) (by decide)
    obtain ⟨Nq249, Kp249, ⟨kt2_250, wt2_251, kk2_252, kw2_253, rfl, z254, z255, f256, f257, f258, f259, f260, f261⟩⟩ := q249
    have N249 := Fr.app N103 Nq249
    refine go _ _ (st249) ?_
    show G (T249.setTop (mkF m 50 #[.val (.ref a), .val (.int x), .val (.int (-1 : Int32)), .val (.int (0 : Int32))] []))
    refine go _ _ (fun _ k => XS.aloadN X249.here hx rfl (hb hby own_d3_50) rfl rfl k) ?_
    show G (T249.setTop (mkF m 51 #[.val (.ref a), .val (.int x), .val (.int (-1 : Int32)), .val (.int (0 : Int32))] [(.ref a)]))
    obtain ⟨T262, X262, e262, st262⟩ := getF X249 hx hZ hown (host := "") (Or.inl (ow hw 11 rfl)) Via.refl rfl f258 (g := (mkF m 51 #[.val (.ref a), .val (.int x), .val (.int (-1 : Int32)), .val (.int (0 : Int32))] [(.ref a)])) rfl rfl (hb hby own_d3_51)
    refine go _ _ (st262) ?_
    show G (T262.setTop (mkF m 54 #[.val (.ref a), .val (.int x), .val (.int (-1 : Int32)), .val (.int (0 : Int32))] [(.ref kt2_250)]))
    refine go _ _ (fun _ k => XS.iloadN X262.here hx rfl (hb hby own_d3_54) rfl (XS.aloadN X262.here hx rfl (hb hby own_d3_55) rfl rfl k)) ?_
    show G (T262.setTop (mkF m 56 #[.val (.ref a), .val (.int x), .val (.int (-1 : Int32)), .val (.int (0 : Int32))] [(.ref a), (.int (0 : Int32)), (.ref kt2_250)]))
    obtain ⟨T263, X263, e263, st263⟩ := getF X262 hx hZ hown (host := "") (Or.inl (ow hw 11 rfl)) Via.refl e262 f258 (g := (mkF m 56 #[.val (.ref a), .val (.int x), .val (.int (-1 : Int32)), .val (.int (0 : Int32))] [(.ref a), (.int (0 : Int32)), (.ref kt2_250)])) rfl rfl (hb hby own_d3_56)
    refine go _ _ (st263) ?_
    show G (T263.setTop (mkF m 59 #[.val (.ref a), .val (.int x), .val (.int (-1 : Int32)), .val (.int (0 : Int32))] [(.ref kt2_250), (.int (0 : Int32)), (.ref kt2_250)]))
    refine go _ _ (fun _ k => XS.iloadN X263.here hx rfl (hb hby own_d3_59) rfl (XS.iconst X263.here hx rfl (hb hby own_d3_60) (XS.iadd X263.here hx rfl (hb hby own_d3_61) rfl (XS.aloadN X263.here hx rfl (hb hby own_d3_62) rfl rfl k)))) ?_
    show G (T263.setTop (mkF m 63 #[.val (.ref a), .val (.int x), .val (.int (-1 : Int32)), .val (.int (0 : Int32))] [(.ref a), (.int (1 : Int32)), (.ref kt2_250), (.int (0 : Int32)), (.ref kt2_250)]))
    obtain ⟨T264, X264, e264, st264⟩ := getF X263 hx hZ hown (host := "") (Or.inl (ow hw 26 rfl)) Via.refl e263 f257 (g := (mkF m 63 #[.val (.ref a), .val (.int x), .val (.int (-1 : Int32)), .val (.int (0 : Int32))] [(.ref a), (.int (1 : Int32)), (.ref kt2_250), (.int (0 : Int32)), (.ref kt2_250)])) rfl rfl (hb hby own_d3_63)
    refine go _ _ (st264) ?_
    show G (T264.setTop (mkF m 66 #[.val (.ref a), .val (.int x), .val (.int (-1 : Int32)), .val (.int (0 : Int32))] [(.int (2 : Int32)), (.int (1 : Int32)), (.ref kt2_250), (.int (0 : Int32)), (.ref kt2_250)]))
    refine go _ _ (fun _ k => XS.iloadN X264.here hx rfl (hb hby own_d3_66) rfl (XS.isub X264.here hx rfl (hb hby own_d3_67) rfl k)) ?_
    show G (T264.setTop (mkF m 68 #[.val (.ref a), .val (.int x), .val (.int (-1 : Int32)), .val (.int (0 : Int32))] [(.int (2 : Int32)), (.int (1 : Int32)), (.ref kt2_250), (.int (0 : Int32)), (.ref kt2_250)]))
    obtain ⟨T265, h265, L265, X265, e265, N265, Kp265, V265, st265⟩ := cpA X264 hx hZ hown (ow hw 61 rfl) (ow hw 56 rfl) (ow hw 54 rfl) (ow hw 55 rfl) e264 f260 f260 (us := [(.int k0), (.int k1)]) (Or.inl ⟨rfl, rfl⟩) (by decide) (by decide) (by decide) (by decide) (by decide) rfl (Nat.le_of_ble_eq_true rfl) N249 (Nat.le_trans Z0 z254) (g := (mkF m 68 #[.val (.ref a), .val (.int x), .val (.int (-1 : Int32)), .val (.int (0 : Int32))] [(.int (2 : Int32)), (.int (1 : Int32)), (.ref kt2_250), (.int (0 : Int32)), (.ref kt2_250)])) rfl (by rw [hml]; rfl) (rest := []) rfl (hb hby own_d3_68) (by decide) (W := 0) (by show 2 * 0 + _ ≤ _; exact Nat.le_of_eq rfl) (by decide)
    have Vq265 : Arv Z h265 kt2_250 kk2_252 .int (3 : Int32) [(.int k0), (.int k0), (.int k1)] (.int (0 : Int32)) := V265
    refine go _ _ (st265) ?_
    show G (T265.setTop (mkF m 71 #[.val (.ref a), .val (.int x), .val (.int (-1 : Int32)), .val (.int (0 : Int32))] []))
    refine go _ _ (fun _ k => XS.aloadN X265.here hx rfl (hb hby own_d3_71) rfl rfl k) ?_
    show G (T265.setTop (mkF m 72 #[.val (.ref a), .val (.int x), .val (.int (-1 : Int32)), .val (.int (0 : Int32))] [(.ref a)]))
    have K267 : Keep T249.heap h265 [kt2_250] := (Keep.refl T249.heap [kt2_250]).trans Kp265 (allS (Or.inl (List.mem_of_getElem? (i := 0) rfl)) all0)
    have F268 : Fld Z h265 a "com/example/hatoyama/hatoyama/IndexSet" "words" "[J" (.ref wt2_251) := (f259.keep K267 (ninS (Nat.ne_of_lt (Nat.lt_of_lt_of_le Ea.lt z254)) nin0))
    obtain ⟨T266, X266, e266, st266⟩ := getF X265 hx hZ hown (host := "") (Or.inl (ow hw 15 rfl)) Via.refl e265 F268 (g := (mkF m 72 #[.val (.ref a), .val (.int x), .val (.int (-1 : Int32)), .val (.int (0 : Int32))] [(.ref a)])) rfl rfl (hb hby own_d3_72)
    refine go _ _ (st266) ?_
    show G (T266.setTop (mkF m 75 #[.val (.ref a), .val (.int x), .val (.int (-1 : Int32)), .val (.int (0 : Int32))] [(.ref wt2_251)]))
    refine go _ _ (fun _ k => XS.iloadN X266.here hx rfl (hb hby own_d3_75) rfl (XS.aloadN X266.here hx rfl (hb hby own_d3_76) rfl rfl k)) ?_
    show G (T266.setTop (mkF m 77 #[.val (.ref a), .val (.int x), .val (.int (-1 : Int32)), .val (.int (0 : Int32))] [(.ref a), (.int (0 : Int32)), (.ref wt2_251)]))
    obtain ⟨T269, X269, e269, st269⟩ := getF X266 hx hZ hown (host := "") (Or.inl (ow hw 15 rfl)) Via.refl e266 F268 (g := (mkF m 77 #[.val (.ref a), .val (.int x), .val (.int (-1 : Int32)), .val (.int (0 : Int32))] [(.ref a), (.int (0 : Int32)), (.ref wt2_251)])) rfl rfl (hb hby own_d3_77)
    refine go _ _ (st269) ?_
    show G (T269.setTop (mkF m 80 #[.val (.ref a), .val (.int x), .val (.int (-1 : Int32)), .val (.int (0 : Int32))] [(.ref wt2_251), (.int (0 : Int32)), (.ref wt2_251)]))
    refine go _ _ (fun _ k => XS.iloadN X269.here hx rfl (hb hby own_d3_80) rfl (XS.iconst X269.here hx rfl (hb hby own_d3_81) (XS.iadd X269.here hx rfl (hb hby own_d3_82) rfl (XS.aloadN X269.here hx rfl (hb hby own_d3_83) rfl rfl k)))) ?_
    show G (T269.setTop (mkF m 84 #[.val (.ref a), .val (.int x), .val (.int (-1 : Int32)), .val (.int (0 : Int32))] [(.ref a), (.int (1 : Int32)), (.ref wt2_251), (.int (0 : Int32)), (.ref wt2_251)]))
    have F271 : Fld Z h265 a "com/example/hatoyama/hatoyama/IndexSet" "used" "I" (.int (2 : Int32)) := (f257.keep K267 (ninS (Nat.ne_of_lt (Nat.lt_of_lt_of_le Ea.lt z254)) nin0))
    obtain ⟨T270, X270, e270, st270⟩ := getF X269 hx hZ hown (host := "") (Or.inl (ow hw 26 rfl)) Via.refl e269 F271 (g := (mkF m 84 #[.val (.ref a), .val (.int x), .val (.int (-1 : Int32)), .val (.int (0 : Int32))] [(.ref a), (.int (1 : Int32)), (.ref wt2_251), (.int (0 : Int32)), (.ref wt2_251)])) rfl rfl (hb hby own_d3_84)
    refine go _ _ (st270) ?_
    show G (T270.setTop (mkF m 87 #[.val (.ref a), .val (.int x), .val (.int (-1 : Int32)), .val (.int (0 : Int32))] [(.int (2 : Int32)), (.int (1 : Int32)), (.ref wt2_251), (.int (0 : Int32)), (.ref wt2_251)]))
    refine go _ _ (fun _ k => XS.iloadN X270.here hx rfl (hb hby own_d3_87) rfl (XS.isub X270.here hx rfl (hb hby own_d3_88) rfl k)) ?_
    show G (T270.setTop (mkF m 89 #[.val (.ref a), .val (.int x), .val (.int (-1 : Int32)), .val (.int (0 : Int32))] [(.int (2 : Int32)), (.int (1 : Int32)), (.ref wt2_251), (.int (0 : Int32)), (.ref wt2_251)]))
    have ne273 : wt2_251 ≠ kt2_250 := own_neA f261 f260 (by decide)
    have F274 : Arv Z h265 wt2_251 kw2_253 .long (3 : Int32) [(.long w0), (.long w1), (.long (0 : Int64))] (.long (0 : Int64)) := (f261.keep K267 (ninS ne273 nin0))
    obtain ⟨T272, h272, L272, X272, e272, N272, Kp272, V272, st272⟩ := cpA X270 hx hZ hown (ow hw 61 rfl) (ow hw 56 rfl) (ow hw 54 rfl) (ow hw 55 rfl) e270 F274 F274 (us := [(.long w0), (.long w1)]) (Or.inl ⟨rfl, rfl⟩) (by decide) (by decide) (by decide) (by decide) (by decide) rfl (Nat.le_of_ble_eq_true rfl) N265 (Nat.le_trans Z0 z255) (g := (mkF m 89 #[.val (.ref a), .val (.int x), .val (.int (-1 : Int32)), .val (.int (0 : Int32))] [(.int (2 : Int32)), (.int (1 : Int32)), (.ref wt2_251), (.int (0 : Int32)), (.ref wt2_251)])) rfl (by rw [hml]; rfl) (rest := []) rfl (hb hby own_d3_89) (by decide) (W := 0) (by show 2 * 0 + _ ≤ _; exact Nat.le_of_eq rfl) (by decide)
    have Vq272 : Arv Z h272 wt2_251 kw2_253 .long (3 : Int32) [(.long w0), (.long w0), (.long w1)] (.long (0 : Int64)) := V272
    refine go _ _ (st272) ?_
    show G (T272.setTop (mkF m 92 #[.val (.ref a), .val (.int x), .val (.int (-1 : Int32)), .val (.int (0 : Int32))] []))
    refine go _ _ (fun _ k => XS.aloadN X272.here hx rfl (hb hby own_d3_92) rfl rfl k) ?_
    show G (T272.setTop (mkF m 93 #[.val (.ref a), .val (.int x), .val (.int (-1 : Int32)), .val (.int (0 : Int32))] [(.ref a)]))
    have K276 : Keep T249.heap h265 [kt2_250, wt2_251] := (Keep.refl T249.heap [kt2_250, wt2_251]).trans Kp265 (allS (Or.inl (List.mem_of_getElem? (i := 0) rfl)) all0)
    have K277 : Keep T249.heap h272 [kt2_250, wt2_251] := K276.trans Kp272 (allS (Or.inl (List.mem_of_getElem? (i := 1) rfl)) all0)
    have F278 : Fld Z h272 a "com/example/hatoyama/hatoyama/IndexSet" "keys" "[I" (.ref kt2_250) := (f258.keep K277 (ninS (Nat.ne_of_lt (Nat.lt_of_lt_of_le Ea.lt z254)) (ninS (Nat.ne_of_lt (Nat.lt_of_lt_of_le Ea.lt z255)) nin0)))
    obtain ⟨T275, X275, e275, st275⟩ := getF X272 hx hZ hown (host := "") (Or.inl (ow hw 11 rfl)) Via.refl e272 F278 (g := (mkF m 93 #[.val (.ref a), .val (.int x), .val (.int (-1 : Int32)), .val (.int (0 : Int32))] [(.ref a)])) rfl rfl (hb hby own_d3_93)
    refine go _ _ (st275) ?_
    show G (T275.setTop (mkF m 96 #[.val (.ref a), .val (.int x), .val (.int (-1 : Int32)), .val (.int (0 : Int32))] [(.ref kt2_250)]))
    refine go _ _ (fun _ k => XS.iloadN X275.here hx rfl (hb hby own_d3_96) rfl (XS.iloadN X275.here hx rfl (hb hby own_d3_97) rfl (XS.bipush X275.here hx rfl (hb hby own_d3_98) (XS.iushr X275.here hx rfl (hb hby own_d3_100) rfl k)))) ?_
    show G (T275.setTop (mkF m 101 #[.val (.ref a), .val (.int x), .val (.int (-1 : Int32)), .val (.int (0 : Int32))] [(.int ((x.toUInt32 >>> ((6 : Int32) &&& 31).toUInt32).toInt32)), (.int (0 : Int32)), (.ref kt2_250)]))
    have K280 : Keep h265 h272 [wt2_251] := (Keep.refl h265 [wt2_251]).trans Kp272 (allS (Or.inl (List.mem_of_getElem? (i := 0) rfl)) all0)
    have F281 : Arv Z h272 kt2_250 kk2_252 .int (3 : Int32) [(.int k0), (.int k0), (.int k1)] (.int (0 : Int32)) := (Vq265.keep K280 (ninS (Ne.symm ne273) nin0))
    obtain ⟨cl279, Ar279, q279, S279, M279, H279, U279⟩ := id F281
    obtain ⟨T279, h279, X279, e279, W279, st279⟩ := stI X275 hx hZ e275 Ar279 (j := (0 : Int32)) (inb_of S279 ⟨by decide, by decide⟩) (g := (mkF m 101 #[.val (.ref a), .val (.int x), .val (.int (-1 : Int32)), .val (.int (0 : Int32))] [(.int ((x.toUInt32 >>> ((6 : Int32) &&& 31).toUInt32).toInt32)), (.int (0 : Int32)), (.ref kt2_250)])) rfl rfl (hb hby own_d3_101)
    have V279 : Arv Z h279 kt2_250 kk2_252 .int (3 : Int32) [(.int ((x.toUInt32 >>> ((6 : Int32) &&& 31).toUInt32).toInt32)), (.int k0), (.int k1)] (.int (0 : Int32)) := Arv.set Ar279 q279 S279 M279 H279 U279 rfl W279 0 rfl (Nat.le_of_ble_eq_true rfl)
    have N279 := Fr.snoc X279 N272 (Nat.le_trans Z0 z254)
    refine go _ _ (st279) ?_
    show G (T279.setTop (mkF m 102 #[.val (.ref a), .val (.int x), .val (.int (-1 : Int32)), .val (.int (0 : Int32))] []))
    refine go _ _ (fun _ k => XS.aloadN X279.here hx rfl (hb hby own_d3_102) rfl rfl k) ?_
    show G (T279.setTop (mkF m 103 #[.val (.ref a), .val (.int x), .val (.int (-1 : Int32)), .val (.int (0 : Int32))] [(.ref a)]))
    have K283 : Keep h265 h272 [wt2_251, kt2_250] := (Keep.refl h265 [wt2_251, kt2_250]).trans Kp272 (allS (Or.inl (List.mem_of_getElem? (i := 0) rfl)) all0)
    have K284 : Keep h265 h279 [wt2_251, kt2_250] := K283.wr W279 (Or.inl (List.mem_of_getElem? (i := 1) rfl))
    have F285 : Fld Z h279 a "com/example/hatoyama/hatoyama/IndexSet" "words" "[J" (.ref wt2_251) := (F268.keep K284 (ninS (Nat.ne_of_lt (Nat.lt_of_lt_of_le Ea.lt z255)) (ninS (Nat.ne_of_lt (Nat.lt_of_lt_of_le Ea.lt z254)) nin0)))
    obtain ⟨T282, X282, e282, st282⟩ := getF X279 hx hZ hown (host := "") (Or.inl (ow hw 15 rfl)) Via.refl e279 F285 (g := (mkF m 103 #[.val (.ref a), .val (.int x), .val (.int (-1 : Int32)), .val (.int (0 : Int32))] [(.ref a)])) rfl rfl (hb hby own_d3_103)
    refine go _ _ (st282) ?_
    show G (T282.setTop (mkF m 106 #[.val (.ref a), .val (.int x), .val (.int (-1 : Int32)), .val (.int (0 : Int32))] [(.ref wt2_251)]))
    refine go _ _ (fun _ k => XS.iloadN X282.here hx rfl (hb hby own_d3_106) rfl (XS.lconst X282.here hx rfl (hb hby own_d3_107) (XS.iloadN X282.here hx rfl (hb hby own_d3_108) rfl (XS.lshl X282.here hx rfl (hb hby own_d3_109) rfl k)))) ?_
    show G (T282.setTop (mkF m 110 #[.val (.ref a), .val (.int x), .val (.int (-1 : Int32)), .val (.int (0 : Int32))] [(.long ((1 : Int64) <<< (x &&& 0x3f).toInt64)), (.int (0 : Int32)), (.ref wt2_251)]))
    have K287 : Keep h272 h279 [kt2_250] := (Keep.refl h272 [kt2_250]).wr W279 (Or.inl (List.mem_of_getElem? (i := 0) rfl))
    have F288 : Arv Z h279 wt2_251 kw2_253 .long (3 : Int32) [(.long w0), (.long w0), (.long w1)] (.long (0 : Int64)) := (Vq272.keep K287 (ninS ne273 nin0))
    obtain ⟨cl286, Ar286, q286, S286, M286, H286, U286⟩ := id F288
    obtain ⟨T286, h286, X286, e286, W286, st286⟩ := stJ X282 hx hZ e282 Ar286 (j := (0 : Int32)) (inb_of S286 ⟨by decide, by decide⟩) (g := (mkF m 110 #[.val (.ref a), .val (.int x), .val (.int (-1 : Int32)), .val (.int (0 : Int32))] [(.long ((1 : Int64) <<< (x &&& 0x3f).toInt64)), (.int (0 : Int32)), (.ref wt2_251)])) rfl rfl (hb hby own_d3_110)
    have V286 : Arv Z h286 wt2_251 kw2_253 .long (3 : Int32) [(.long ((1 : Int64) <<< (x &&& 0x3f).toInt64)), (.long w0), (.long w1)] (.long (0 : Int64)) := Arv.set Ar286 q286 S286 M286 H286 U286 rfl W286 0 rfl (Nat.le_of_ble_eq_true rfl)
    have N286 := Fr.snoc X286 N279 (Nat.le_trans Z0 z255)
    refine go _ _ (st286) ?_
    show G (T286.setTop (mkF m 111 #[.val (.ref a), .val (.int x), .val (.int (-1 : Int32)), .val (.int (0 : Int32))] []))
    refine go _ _ (fun _ k => XS.aloadN X286.here hx rfl (hb hby own_d3_111) rfl rfl (XS.dup X286.here hx rfl (hb hby own_d3_112) rfl rfl k)) ?_
    show G (T286.setTop (mkF m 113 #[.val (.ref a), .val (.int x), .val (.int (-1 : Int32)), .val (.int (0 : Int32))] [(.ref a), (.ref a)]))
    have K290 : Keep h265 h286 [wt2_251, kt2_250] := K284.wr W286 (Or.inl (List.mem_of_getElem? (i := 0) rfl))
    have F291 : Fld Z h286 a "com/example/hatoyama/hatoyama/IndexSet" "used" "I" (.int (2 : Int32)) := (F271.keep K290 (ninS (Nat.ne_of_lt (Nat.lt_of_lt_of_le Ea.lt z255)) (ninS (Nat.ne_of_lt (Nat.lt_of_lt_of_le Ea.lt z254)) nin0)))
    obtain ⟨T289, X289, e289, st289⟩ := getF X286 hx hZ hown (host := "") (Or.inl (ow hw 26 rfl)) Via.refl e286 F291 (g := (mkF m 113 #[.val (.ref a), .val (.int x), .val (.int (-1 : Int32)), .val (.int (0 : Int32))] [(.ref a), (.ref a)])) rfl rfl (hb hby own_d3_113)
    refine go _ _ (st289) ?_
    show G (T289.setTop (mkF m 116 #[.val (.ref a), .val (.int x), .val (.int (-1 : Int32)), .val (.int (0 : Int32))] [(.int (2 : Int32)), (.ref a)]))
    refine go _ _ (fun _ k => XS.iconst X289.here hx rfl (hb hby own_d3_116) (XS.iadd X289.here hx rfl (hb hby own_d3_117) rfl k)) ?_
    show G (T289.setTop (mkF m 118 #[.val (.ref a), .val (.int x), .val (.int (-1 : Int32)), .val (.int (0 : Int32))] [(.int (3 : Int32)), (.ref a)]))
    have K293 : Keep T249.heap h279 [kt2_250, wt2_251] := K277.wr W279 (Or.inl (List.mem_of_getElem? (i := 0) rfl))
    have K294 : Keep T249.heap h286 [kt2_250, wt2_251] := K293.wr W286 (Or.inl (List.mem_of_getElem? (i := 1) rfl))
    have F295 : Exa Z h286 a "com/example/hatoyama/hatoyama/IndexSet" := (f256.keep K294)
    obtain ⟨T292, h292, X292, e292, W292, st292⟩ := putF X289 hx hZ hown (host := "") (Or.inl (ow hw 26 rfl)) Via.refl e289 F291 F295 (Or.inl (ow hw 27 rfl)) (ow hw 1 rfl) (ty := .int) (by decide) rfl rfl (g := (mkF m 118 #[.val (.ref a), .val (.int x), .val (.int (-1 : Int32)), .val (.int (0 : Int32))] [(.int (3 : Int32)), (.ref a)])) rfl rfl (hb hby own_d3_118)
    have K296 : Keep h272 h279 [kt2_250, wt2_251] := (Keep.refl h272 [kt2_250, wt2_251]).wr W279 (Or.inl (List.mem_of_getElem? (i := 0) rfl))
    have K297 : Keep h272 h286 [kt2_250, wt2_251] := K296.wr W286 (Or.inl (List.mem_of_getElem? (i := 1) rfl))
    have F298 : Fld Z h286 a "com/example/hatoyama/hatoyama/IndexSet" "keys" "[I" (.ref kt2_250) := (F278.keep K297 (ninS (Nat.ne_of_lt (Nat.lt_of_lt_of_le Ea.lt z254)) (ninS (Nat.ne_of_lt (Nat.lt_of_lt_of_le Ea.lt z255)) nin0)))
    have K299 : Keep h279 h286 [wt2_251] := (Keep.refl h279 [wt2_251]).wr W286 (Or.inl (List.mem_of_getElem? (i := 0) rfl))
    have F300 : Fld Z h286 a "com/example/hatoyama/hatoyama/IndexSet" "words" "[J" (.ref wt2_251) := (F285.keep K299 (ninS (Nat.ne_of_lt (Nat.lt_of_lt_of_le Ea.lt z255)) nin0))
    have N292 := Fr.snoc X292 N286 gz_a
    refine go _ _ (st292) ?_
    show G (T292.setTop (mkF m 121 #[.val (.ref a), .val (.int x), .val (.int (-1 : Int32)), .val (.int (0 : Int32))] []))
    have K301 : Keep h0 T249.heap [a, wt] := (Keep.refl h0 [a, wt]).trans Kp249 (allS (Or.inl (List.mem_of_getElem? (i := 0) rfl)) all0)
    have K302 : Keep h0 h265 [a, wt] := K301.trans Kp265 (allS (Or.inr z254) all0)
    have K303 : Keep h0 h272 [a, wt] := K302.trans Kp272 (allS (Or.inr z255) all0)
    have K304 : Keep h0 h279 [a, wt] := K303.wr W279 (Or.inr z254)
    have K305 : Keep h0 h286 [a, wt] := K304.wr W286 (Or.inr z255)
    have K306 : Keep h0 h292 [a, wt] := K305.wr W292 (Or.inl (List.mem_of_getElem? (i := 0) rfl))
    have K307 : Keep h279 h286 [wt2_251, a] := (Keep.refl h279 [wt2_251, a]).wr W286 (Or.inl (List.mem_of_getElem? (i := 0) rfl))
    have K308 : Keep h279 h292 [wt2_251, a] := K307.wr W292 (Or.inl (List.mem_of_getElem? (i := 1) rfl))
    have F309 : Arv Z h292 kt2_250 kk2_252 .int (3 : Int32) [(.int ((x.toUInt32 >>> ((6 : Int32) &&& 31).toUInt32).toInt32)), (.int k0), (.int k1)] (.int (0 : Int32)) := (V279.keep K308 (ninS (Ne.symm ne273) (ninS (Ne.symm (Nat.ne_of_lt (Nat.lt_of_lt_of_le Ea.lt z254))) nin0)))
    have K310 : Keep h286 h292 [a] := (Keep.refl h286 [a]).wr W292 (Or.inl (List.mem_of_getElem? (i := 0) rfl))
    have F311 : Arv Z h292 wt2_251 kw2_253 .long (3 : Int32) [(.long ((1 : Int64) <<< (x &&& 0x3f).toInt64)), (.long w0), (.long w1)] (.long (0 : Int64)) := (V286.keep K310 (ninS (Ne.symm (Nat.ne_of_lt (Nat.lt_of_lt_of_le Ea.lt z255))) nin0))
    refine fin T292 _ _ _ none X292 (fun _ => rfl) (by decide) (by decide) (by rw [e292]; exact ⟨N292, K306, (Or.inr ⟨kt2_250, wt2_251, kk2_252, kw2_253, ((x.toUInt32 >>> ((6 : Int32) &&& 31).toUInt32).toInt32), k0, k1, ((1 : Int64) <<< (x &&& 0x3f).toInt64), w0, w1, rfl, z254, z255, (own_srt3 p108 (own_srt_lt hs (i := 0) (j := 1) (p := (k0, w0)) (q := (k1, w1)) rfl rfl (by decide)) ⟨x, rfl⟩ (own_srtm hs (i := 0) (p := (k0, w0)) rfl) (own_srtm hs (i := 1) (p := (k1, w1)) rfl)), (own_add_ins [] [(k0, w0), (k1, w1)] x), (F295.wr W292), (F291.same W292), (F298.other W292 (Or.inr (RoadKit.slot_ne (t := (.array .int)) (t' := .int) (Or.inl (ow hw 12 rfl)) (Or.inl (ow hw 27 rfl)) (by decide) (by decide) (by decide)))), (F300.other W292 (Or.inr (RoadKit.slot_ne (t := (.array .long)) (t' := .int) (Or.inl (ow hw 16 rfl)) (Or.inl (ow hw 27 rfl)) (by decide) (by decide) (by decide)))), F309, F311⟩)⟩) _ (own_retV X292 hx hret (hb hby own_d3_121))
  · refine go _ _ (st103) ?_
    show G (T103.setTop (mkF m 16 #[.val (.ref a), .val (.int x), .unset, .unset] [(.int (0 : Int32))]))
    refine go _ _ (fun _ k => XS.istoreN X103.here hx rfl (hb hby own_d3_16) rfl (l' := #[.val (.ref a), .val (.int x), .val (.int (0 : Int32)), .unset]) rfl (XS.iloadN X103.here hx rfl (hb hby own_d3_17) rfl k)) ?_
    show G (T103.setTop (mkF m 18 #[.val (.ref a), .val (.int x), .val (.int (0 : Int32)), .unset] [(.int (0 : Int32))]))
    refine go _ _ (fun _ k => XS.ifNo X103.here hx rfl (hb hby own_d3_18) rfl (by decide) k) ?_
    show G (T103.setTop (mkF m 21 #[.val (.ref a), .val (.int x), .val (.int (0 : Int32)), .unset] []))
    refine go _ _ (fun _ k => XS.aloadN X103.here hx rfl (hb hby own_d3_21) rfl rfl k) ?_
    show G (T103.setTop (mkF m 22 #[.val (.ref a), .val (.int x), .val (.int (0 : Int32)), .unset] [(.ref a)]))
    obtain ⟨T312, X312, e312, st312⟩ := getF X103 hx hZ hown (host := "") (Or.inl (ow hw 15 rfl)) Via.refl e103 Fw (g := (mkF m 22 #[.val (.ref a), .val (.int x), .val (.int (0 : Int32)), .unset] [(.ref a)])) rfl rfl (hb hby own_d3_22)
    refine go _ _ (st312) ?_
    show G (T312.setTop (mkF m 25 #[.val (.ref a), .val (.int x), .val (.int (0 : Int32)), .unset] [(.ref wt)]))
    refine go _ _ (fun _ k => XS.iloadN X312.here hx rfl (hb hby own_d3_25) rfl (XT.dup2 X312.here hx rfl (hb hby own_d3_26) rfl rfl rfl k)) ?_
    show G (T312.setTop (mkF m 27 #[.val (.ref a), .val (.int x), .val (.int (0 : Int32)), .unset] [(.int (0 : Int32)), (.ref wt), (.int (0 : Int32)), (.ref wt)]))
    obtain ⟨cl313, Ar313, q313, S313, M313, H313, U313⟩ := id Aw
    refine go _ _ (fun _ k => X312.laload hx (j := (0 : Int32)) (v := (.long w0)) (by rw [e312]; exact Ar313.1) (State.isArrayOf_alike hZ.alike Ar313.2.1) Ar313.2.2 (inb_of S313 ⟨by decide, by decide⟩) (Has.at H313 (inb_of S313 ⟨by decide, by decide⟩) rfl) (g := (mkF m 27 #[.val (.ref a), .val (.int x), .val (.int (0 : Int32)), .unset] [(.int (0 : Int32)), (.ref wt), (.int (0 : Int32)), (.ref wt)])) rfl rfl (hb hby own_d3_27) _ k) ?_
    show G (T312.setTop (mkF m 28 #[.val (.ref a), .val (.int x), .val (.int (0 : Int32)), .unset] [(.long w0), (.int (0 : Int32)), (.ref wt)]))
    refine go _ _ (fun _ k => XS.lconst X312.here hx rfl (hb hby own_d3_28) (XS.iloadN X312.here hx rfl (hb hby own_d3_29) rfl (XS.lshl X312.here hx rfl (hb hby own_d3_30) rfl (XS.lor X312.here hx rfl (hb hby own_d3_31) rfl k)))) ?_
    show G (T312.setTop (mkF m 32 #[.val (.ref a), .val (.int x), .val (.int (0 : Int32)), .unset] [(.long (w0 ||| ((1 : Int64) <<< (x &&& 0x3f).toInt64))), (.int (0 : Int32)), (.ref wt)]))
    obtain ⟨cl314, Ar314, q314, S314, M314, H314, U314⟩ := id Aw
    obtain ⟨T314, h314, X314, e314, W314, st314⟩ := stJ X312 hx hZ e312 Ar314 (j := (0 : Int32)) (inb_of S314 ⟨by decide, by decide⟩) (g := (mkF m 32 #[.val (.ref a), .val (.int x), .val (.int (0 : Int32)), .unset] [(.long (w0 ||| ((1 : Int64) <<< (x &&& 0x3f).toInt64))), (.int (0 : Int32)), (.ref wt)])) rfl rfl (hb hby own_d3_32)
    have V314 : Arv Z h314 wt kw .long (2 : Int32) [(.long (w0 ||| ((1 : Int64) <<< (x &&& 0x3f).toInt64))), (.long w1)] (.long (0 : Int64)) := Arv.set Ar314 q314 S314 M314 H314 U314 rfl W314 0 rfl (Nat.le_of_ble_eq_true rfl)
    have N314 := Fr.snoc X314 N103 gz_wt
    refine go _ _ (st314) ?_
    show G (T314.setTop (mkF m 33 #[.val (.ref a), .val (.int x), .val (.int (0 : Int32)), .unset] []))
    refine go _ _ (fun _ k => XS.goto X314.here hx rfl (pc0 := 33) (pc' := 121) rfl (hb hby own_d3_33) (by decide) (by decide) k) ?_
    show G (T314.setTop (mkF m 121 #[.val (.ref a), .val (.int x), .val (.int (0 : Int32)), .unset] []))
    have K315 : Keep h0 h314 [a, wt] := (Keep.refl h0 [a, wt]).wr W314 (Or.inl (List.mem_of_getElem? (i := 1) rfl))
    have K316 : Keep h0 h314 [wt] := (Keep.refl h0 [wt]).wr W314 (Or.inl (List.mem_of_getElem? (i := 0) rfl))
    have F317 : Exa Z h314 a "com/example/hatoyama/hatoyama/IndexSet" := (Ea.keep K316)
    have F318 : Fld Z h314 a "com/example/hatoyama/hatoyama/IndexSet" "used" "I" (.int (2 : Int32)) := (Fu.keep K316 (ninS (Exa.neArv Ea Aw (ow hw 1 rfl)) nin0))
    have F319 : Fld Z h314 a "com/example/hatoyama/hatoyama/IndexSet" "keys" "[I" (.ref kt) := (Fk.keep K316 (ninS (Exa.neArv Ea Aw (ow hw 1 rfl)) nin0))
    have F320 : Fld Z h314 a "com/example/hatoyama/hatoyama/IndexSet" "words" "[J" (.ref wt) := (Fw.keep K316 (ninS (Exa.neArv Ea Aw (ow hw 1 rfl)) nin0))
    have F321 : Arv Z h314 kt kk .int (2 : Int32) [(.int k0), (.int k1)] (.int (0 : Int32)) := (Ak.keep K316 (ninS (own_neA Ak Aw (by decide)) nin0))
    refine fin T314 _ _ _ none X314 (fun _ => rfl) (by decide) (by decide) (by rw [e314]; exact ⟨N314, K315, (Or.inl ⟨(w0 ||| ((1 : Int64) <<< (x &&& 0x3f).toInt64)), w1, rfl, (own_srt2 (own_srt_lt hs (i := 0) (j := 1) (p := (k0, w0)) (q := (k1, w1)) rfl rfl (by decide)) (own_srtm hs (i := 0) (p := (k0, w0)) rfl) (own_srtm hs (i := 1) (p := (k1, w1)) rfl)), (own_add_or [] [(k1, w1)] k0 w0 x p109), F317, F318, F319, F320, F321, V314⟩)⟩) _ (own_retV X314 hx hret (hb hby own_d3_121))
theorem own_pn3 : plainName "com/example/hatoyama/hatoyama/IndexSetIntersectsPinLaw" = true := by decide +kernel
theorem own_d2_0 : decode method_3_code 0 = .ok (.iload_n 1, 1) := by decide +kernel
theorem own_d2_1 : decode method_3_code 1 = .ok (.ifCond .le 8, 3) := by decide +kernel
theorem own_d2_4 : decode method_3_code 4 = .ok (.aload_n 0, 1) := by decide +kernel
theorem own_d2_5 : decode method_3_code 5 = .ok (.iload_n 2, 1) := by decide +kernel
theorem own_d2_6 : decode method_3_code 6 = .ok (.invokevirtual 7, 3) := by decide +kernel
theorem own_d2_9 : decode method_3_code 9 = .ok (.iload_n 1, 1) := by decide +kernel
theorem own_d2_10 : decode method_3_code 10 = .ok (.iconst 1, 1) := by decide +kernel
theorem own_d2_11 : decode method_3_code 11 = .ok (.if_icmp .le 8, 3) := by decide +kernel
theorem own_d2_14 : decode method_3_code 14 = .ok (.aload_n 0, 1) := by decide +kernel
theorem own_d2_15 : decode method_3_code 15 = .ok (.iload_n 3, 1) := by decide +kernel
theorem own_d2_16 : decode method_3_code 16 = .ok (.invokevirtual 7, 3) := by decide +kernel
theorem own_d2_19 : decode method_3_code 19 = .ok (.iload_n 1, 1) := by decide +kernel
theorem own_d2_20 : decode method_3_code 20 = .ok (.iconst 2, 1) := by decide +kernel
theorem own_d2_21 : decode method_3_code 21 = .ok (.if_icmp .le 9, 3) := by decide +kernel
theorem own_d2_24 : decode method_3_code 24 = .ok (.aload_n 0, 1) := by decide +kernel
theorem own_d2_25 : decode method_3_code 25 = .ok (.iload 4, 2) := by decide +kernel
theorem own_d2_27 : decode method_3_code 27 = .ok (.invokevirtual 7, 3) := by decide +kernel
theorem own_d2_30 : decode method_3_code 30 = .ok (.return_, 1) := by decide +kernel
set_option maxHeartbeats 4000000 in
theorem own_ef_rm2 (m : MethodId) (x0 : Addr) (x1 : Int32) (x2 : Int32) (x3 : Int32) (x4 : Int32) : entryFrame m #[(.ref x0), (.int x1), (.int x2), (.int x3), (.int x4)] 5 = mkF m 0 #[.val (.ref x0), .val (.int x1), .val (.int x2), .val (.int x3), .val (.int x4)] [] := by rfl
set_option maxRecDepth 65536 in
set_option maxHeartbeats 40000000 in
theorem rm2 (l : Launch) (Z : State) (a0 : Array Value) (hw : ∀ d ∈ tables_1, d.before a0 Z = true) (nk : Addr) (kk0 : ClassId) (O_nk : Sta Z Z.heap "com/example/hatoyama/hatoyama/IndexSet" "NO_KEYS" "[I" (.ref nk)) (V_nk : Arv Z Z.heap nk kk0 .int (0 : Int32) [] (.int (0 : Int32))) (nw : Addr) (kw0 : ClassId) (O_nw : Sta Z Z.heap "com/example/hatoyama/hatoyama/IndexSet" "NO_WORDS" "[J" (.ref nw)) (V_nw : Arv Z Z.heap nw kw0 .long (0 : Int32) [] (.long (0 : Int64))) (ws : List Jvm.Cond) (a : Addr) (n : Int32) (x0 : Int32) (x1 : Int32) (x2 : Int32) (h0 : Heap) (n0 : Nat) (Z0 : n0 ≤ h0.size) (Xo : Old Z n0 h0) (Ea : Exa Z h0 a "com/example/hatoyama/hatoyama/IndexSet") (Fk : Fld Z h0 a "com/example/hatoyama/hatoyama/IndexSet" "keys" "[I" (.ref nk)) (Fw : Fld Z h0 a "com/example/hatoyama/hatoyama/IndexSet" "words" "[J" (.ref nw)) (Fu : Fld Z h0 a "com/example/hatoyama/hatoyama/IndexSet" "used" "I" (.int (0 : Int32))) (gz_a : n0 ≤ a) :
    own_MetN l Z (⟨"com/example/hatoyama/hatoyama/IndexSetIntersectsPinLaw", "fill", "(Lcom/example/hatoyama/hatoyama/IndexSet;IIII)V"⟩ : MethodName) method_3_code 5 none ws ({ frames := 4, cells := 6, slots := 12, locals := 71 } : Room) #[(.ref a), (.int n), (.int x0), (.int x1), (.int x2)] h0 (fun v h L => Fr n0 L ∧ Keep h0 h [a] ∧ ((∃ (ps : List (Int32 × Int64)), (v = none) ∧ (own_Srt ps) ∧ (own_Rep ps (own_L n x0 x1 x2)) ∧ (Exa Z h a "com/example/hatoyama/hatoyama/IndexSet") ∧ (own_IS Z h a ps)))) := by
  refine own_metN (plainFor_of_name own_pn3) ?_
  intro p e s m below meth c s₁ G hx hby hml hZ hown hnm hret X0 e0 go fin
  have N0 := Fr.nil n0
  refine go _ _ (fun _ k => castTop (own_ef_rm2 m a n x0 x1 x2) k) ?_
  show G (s₁.setTop (mkF m 0 #[.val (.ref a), .val (.int n), .val (.int x0), .val (.int x1), .val (.int x2)] []))
  refine go _ _ (fun _ k => XS.iloadN X0.here hx rfl (hb hby own_d2_0) rfl k) ?_
  show G (s₁.setTop (mkF m 1 #[.val (.ref a), .val (.int n), .val (.int x0), .val (.int x1), .val (.int x2)] [(.int n)]))
  by_cases hc1_101 : (0 : Int32) < n
  · refine go _ _ (fun _ k => XS.ifNo X0.here hx rfl (hb hby own_d2_1) rfl ((if0 _ _).trans (tlt hc1_101).2.2.2) k) ?_
    show G (s₁.setTop (mkF m 4 #[.val (.ref a), .val (.int n), .val (.int x0), .val (.int x1), .val (.int x2)] []))
    refine go _ _ (fun _ k => XS.aloadN X0.here hx rfl (hb hby own_d2_4) rfl rfl (XS.iloadN X0.here hx rfl (hb hby own_d2_5) rfl k)) ?_
    show G (s₁.setTop (mkF m 6 #[.val (.ref a), .val (.int n), .val (.int x0), .val (.int x1), .val (.int x2)] [(.int x0), (.ref a)]))
    obtain ⟨rv102, T102, L102, X102, q102, st102⟩ := own_vi X0 hx hZ (y := (⟨"com/example/hatoyama/hatoyama/IndexSet", "add", "(I)V"⟩ : MethodName)) (z := (⟨"com/example/hatoyama/hatoyama/IndexSet", "add", "(I)V"⟩ : MethodName)) hown (ow hw 21 rfl) (ow hw 22 rfl) (ow hw 24 rfl) (ow hw 23 rfl) (Or.inl rfl) (by decide) (own_bkN (W := 0) (rmAdd0 l Z a0 hw nk kk0 O_nk V_nk nw kw0 O_nw V_nw [] a x0 h0 n0 Z0 Xo Ea Fk Fw Fu own_srt0 gz_a) hZ (ow hw 25 rfl) (ow hw 2 rfl) (by decide) (by decide)) e0 Ea (g := (mkF m 6 #[.val (.ref a), .val (.int n), .val (.int x0), .val (.int x1), .val (.int x2)] [(.int x0), (.ref a)])) rfl (by rw [hml]; rfl) (argsL := [(.int x0)]) (rest := []) rfl (lenOf own_pd5 rfl) rfl (by show 2 * 0 + _ ≤ _; exact Nat.le_of_eq rfl) (hb hby own_d2_6) (by decide) (by decide)
    obtain ⟨Nq102, Kp102, ⟨kt2_103, wt2_104, kk2_105, kw2_106, m0_107, v0_108, rfl, z109, z110, p111, p112, f113, f114, f115, f116, f117, f118⟩⟩ := q102
    have N102 := Fr.app N0 Nq102
    refine go _ _ (st102) ?_
    show G (T102.setTop (mkF m 9 #[.val (.ref a), .val (.int n), .val (.int x0), .val (.int x1), .val (.int x2)] []))
    refine go _ _ (fun _ k => XS.iloadN X102.here hx rfl (hb hby own_d2_9) rfl (XS.iconst X102.here hx rfl (hb hby own_d2_10) k)) ?_
    show G (T102.setTop (mkF m 11 #[.val (.ref a), .val (.int n), .val (.int x0), .val (.int x1), .val (.int x2)] [(.int (1 : Int32)), (.int n)]))
    by_cases hc11_119 : (1 : Int32) < n
    · refine go _ _ (fun _ k => XS.icmpNo X102.here hx rfl (hb hby own_d2_11) rfl (tlt hc11_119).2.2.2 k) ?_
      show G (T102.setTop (mkF m 14 #[.val (.ref a), .val (.int n), .val (.int x0), .val (.int x1), .val (.int x2)] []))
      refine go _ _ (fun _ k => XS.aloadN X102.here hx rfl (hb hby own_d2_14) rfl rfl (XS.iloadN X102.here hx rfl (hb hby own_d2_15) rfl k)) ?_
      show G (T102.setTop (mkF m 16 #[.val (.ref a), .val (.int n), .val (.int x0), .val (.int x1), .val (.int x2)] [(.int x1), (.ref a)]))
      have K121 : Keep h0 T102.heap [a] := (Keep.refl h0 [a]).trans Kp102 (allS (Or.inl (List.mem_of_getElem? (i := 0) rfl)) all0)
      have F122 : Old Z n0 T102.heap := (Xo.keep K121 (allS gz_a all0))
      have Z123 : h0.size ≤ T102.heap.size := Kp102.1
      obtain ⟨rv120, T120, L120, X120, q120, st120⟩ := own_vi X102 hx hZ (y := (⟨"com/example/hatoyama/hatoyama/IndexSet", "add", "(I)V"⟩ : MethodName)) (z := (⟨"com/example/hatoyama/hatoyama/IndexSet", "add", "(I)V"⟩ : MethodName)) hown (ow hw 21 rfl) (ow hw 22 rfl) (ow hw 24 rfl) (ow hw 23 rfl) (Or.inl rfl) (by decide) (own_bkN (W := 0) (rmAdd1 l Z a0 hw nk kk0 O_nk V_nk nw kw0 O_nw V_nw [] a x1 kt2_103 wt2_104 kk2_105 m0_107 kw2_106 v0_108 T102.heap n0 (Nat.le_trans Z0 Z123) F122 f113 f115 f116 f114 f117 f118 p111 gz_a (Nat.le_trans Z0 z110)) hZ (ow hw 25 rfl) (ow hw 2 rfl) (by decide) (by decide)) rfl f113 (g := (mkF m 16 #[.val (.ref a), .val (.int n), .val (.int x0), .val (.int x1), .val (.int x2)] [(.int x1), (.ref a)])) rfl (by rw [hml]; rfl) (argsL := [(.int x1)]) (rest := []) rfl (lenOf own_pd5 rfl) rfl (by show 2 * 0 + _ ≤ _; exact Nat.le_of_eq rfl) (hb hby own_d2_16) (by decide) (by decide)
      obtain ⟨Nq120, Kp120, q120⟩ := q120
      have N120 := Fr.app N102 Nq120
      rcases q120 with ⟨v0_124, rfl, p125, p126, f127, f128, f129, f130, f131, f132⟩ | ⟨kt2_133, wt2_134, kk2_135, kw2_136, m0_137, m1_138, v0_139, v1_140, rfl, z141, z142, p143, p144, f145, f146, f147, f148, f149, f150⟩
      · refine go _ _ (st120) ?_
        show G (T120.setTop (mkF m 19 #[.val (.ref a), .val (.int n), .val (.int x0), .val (.int x1), .val (.int x2)] []))
        refine go _ _ (fun _ k => XS.iloadN X120.here hx rfl (hb hby own_d2_19) rfl (XS.iconst X120.here hx rfl (hb hby own_d2_20) k)) ?_
        show G (T120.setTop (mkF m 21 #[.val (.ref a), .val (.int n), .val (.int x0), .val (.int x1), .val (.int x2)] [(.int (2 : Int32)), (.int n)]))
        by_cases hc21_151 : (2 : Int32) < n
        · refine go _ _ (fun _ k => XS.icmpNo X120.here hx rfl (hb hby own_d2_21) rfl (tlt hc21_151).2.2.2 k) ?_
          show G (T120.setTop (mkF m 24 #[.val (.ref a), .val (.int n), .val (.int x0), .val (.int x1), .val (.int x2)] []))
          refine go _ _ (fun _ k => XS.aloadN X120.here hx rfl (hb hby own_d2_24) rfl rfl (XS.iload X120.here hx rfl (hb hby own_d2_25) rfl k)) ?_
          show G (T120.setTop (mkF m 27 #[.val (.ref a), .val (.int n), .val (.int x0), .val (.int x1), .val (.int x2)] [(.int x2), (.ref a)]))
          have K153 : Keep T102.heap T120.heap [a, wt2_104] := (Keep.refl T102.heap [a, wt2_104]).trans Kp120 (allS (Or.inl (List.mem_of_getElem? (i := 0) rfl)) (allS (Or.inl (List.mem_of_getElem? (i := 1) rfl)) all0))
          have F154 : Old Z n0 T120.heap := (F122.keep K153 (allS gz_a (allS (Nat.le_trans Z0 z110) all0)))
          have Z155 : h0.size ≤ T120.heap.size := Nat.le_trans Z123 Kp120.1
          obtain ⟨rv152, T152, L152, X152, q152, st152⟩ := own_vi X120 hx hZ (y := (⟨"com/example/hatoyama/hatoyama/IndexSet", "add", "(I)V"⟩ : MethodName)) (z := (⟨"com/example/hatoyama/hatoyama/IndexSet", "add", "(I)V"⟩ : MethodName)) hown (ow hw 21 rfl) (ow hw 22 rfl) (ow hw 24 rfl) (ow hw 23 rfl) (Or.inl rfl) (by decide) (own_bkN (W := 0) (rmAdd1 l Z a0 hw nk kk0 O_nk V_nk nw kw0 O_nw V_nw [] a x2 kt2_103 wt2_104 kk2_105 m0_107 kw2_106 v0_124 T120.heap n0 (Nat.le_trans Z0 Z155) F154 f127 f129 f130 f128 f131 f132 p125 gz_a (Nat.le_trans Z0 z110)) hZ (ow hw 25 rfl) (ow hw 2 rfl) (by decide) (by decide)) rfl f127 (g := (mkF m 27 #[.val (.ref a), .val (.int n), .val (.int x0), .val (.int x1), .val (.int x2)] [(.int x2), (.ref a)])) rfl (by rw [hml]; rfl) (argsL := [(.int x2)]) (rest := []) rfl (lenOf own_pd5 rfl) rfl (by show 2 * 0 + _ ≤ _; exact Nat.le_of_eq rfl) (hb hby own_d2_27) (by decide) (by decide)
          obtain ⟨Nq152, Kp152, q152⟩ := q152
          have N152 := Fr.app N120 Nq152
          rcases q152 with ⟨v0_156, rfl, p157, p158, f159, f160, f161, f162, f163, f164⟩ | ⟨kt2_165, wt2_166, kk2_167, kw2_168, m0_169, m1_170, v0_171, v1_172, rfl, z173, z174, p175, p176, f177, f178, f179, f180, f181, f182⟩
          · refine go _ _ (st152) ?_
            show G (T152.setTop (mkF m 30 #[.val (.ref a), .val (.int n), .val (.int x0), .val (.int x1), .val (.int x2)] []))
            have K183 : Keep h0 T120.heap [a] := K121.trans Kp120 (allS (Or.inl (List.mem_of_getElem? (i := 0) rfl)) (allS (Or.inr z110) all0))
            have K184 : Keep h0 T152.heap [a] := K183.trans Kp152 (allS (Or.inl (List.mem_of_getElem? (i := 0) rfl)) (allS (Or.inr z110) all0))
            have Is : own_IS Z T152.heap a ([(m0_107, v0_156)] : List (Int32 × Int64)) := ⟨_, _, _, _, f160, f161, f162, f163, f164, (Nat.le_of_ble_eq_true rfl)⟩
            have Rp : own_Rep ([(m0_107, v0_156)] : List (Int32 × Int64)) (own_L n x0 x1 x2) := by rw [own_L3 hc1_101 hc11_119 hc21_151]; exact (own_rep1 (own_rep1 (own_rep1 own_rep0 p112) p126) p158)
            refine fin T152 _ _ _ none X152 (fun _ => rfl) (by decide) (by decide) ⟨N152, K184, ⟨([(m0_107, v0_156)] : List (Int32 × Int64)), rfl, p157, Rp, f159, Is⟩⟩ _ (own_retV X152 hx hret (hb hby own_d2_30))
          · refine go _ _ (st152) ?_
            show G (T152.setTop (mkF m 30 #[.val (.ref a), .val (.int n), .val (.int x0), .val (.int x1), .val (.int x2)] []))
            have K185 : Keep h0 T120.heap [a] := K121.trans Kp120 (allS (Or.inl (List.mem_of_getElem? (i := 0) rfl)) (allS (Or.inr z110) all0))
            have K186 : Keep h0 T152.heap [a] := K185.trans Kp152 (allS (Or.inl (List.mem_of_getElem? (i := 0) rfl)) (allS (Or.inr z110) all0))
            have Is : own_IS Z T152.heap a ([(m0_169, v0_171), (m1_170, v1_172)] : List (Int32 × Int64)) := ⟨_, _, _, _, f178, f179, f180, f181, f182, (Nat.le_of_ble_eq_true rfl)⟩
            have Rp : own_Rep ([(m0_169, v0_171), (m1_170, v1_172)] : List (Int32 × Int64)) (own_L n x0 x1 x2) := by rw [own_L3 hc1_101 hc11_119 hc21_151]; exact (own_rep1 (own_rep1 (own_rep1 own_rep0 p112) p126) p176)
            refine fin T152 _ _ _ none X152 (fun _ => rfl) (by decide) (by decide) ⟨N152, K186, ⟨([(m0_169, v0_171), (m1_170, v1_172)] : List (Int32 × Int64)), rfl, p175, Rp, f177, Is⟩⟩ _ (own_retV X152 hx hret (hb hby own_d2_30))
        · refine go _ _ (fun _ k => XS.icmpYes X120.here hx rfl (pc0 := 21) (pc' := 30) rfl (hb hby own_d2_21) rfl (flt hc21_151).2.2.2 (by decide) (by decide) k) ?_
          show G (T120.setTop (mkF m 30 #[.val (.ref a), .val (.int n), .val (.int x0), .val (.int x1), .val (.int x2)] []))
          have K187 : Keep h0 T120.heap [a] := K121.trans Kp120 (allS (Or.inl (List.mem_of_getElem? (i := 0) rfl)) (allS (Or.inr z110) all0))
          have Is : own_IS Z T120.heap a ([(m0_107, v0_124)] : List (Int32 × Int64)) := ⟨_, _, _, _, f128, f129, f130, f131, f132, (Nat.le_of_ble_eq_true rfl)⟩
          have Rp : own_Rep ([(m0_107, v0_124)] : List (Int32 × Int64)) (own_L n x0 x1 x2) := by rw [own_L2 hc1_101 hc11_119 hc21_151]; exact (own_rep1 (own_rep1 own_rep0 p112) p126)
          refine fin T120 _ _ _ none X120 (fun _ => rfl) (by decide) (by decide) ⟨N120, K187, ⟨([(m0_107, v0_124)] : List (Int32 × Int64)), rfl, p125, Rp, f127, Is⟩⟩ _ (own_retV X120 hx hret (hb hby own_d2_30))
      · refine go _ _ (st120) ?_
        show G (T120.setTop (mkF m 19 #[.val (.ref a), .val (.int n), .val (.int x0), .val (.int x1), .val (.int x2)] []))
        refine go _ _ (fun _ k => XS.iloadN X120.here hx rfl (hb hby own_d2_19) rfl (XS.iconst X120.here hx rfl (hb hby own_d2_20) k)) ?_
        show G (T120.setTop (mkF m 21 #[.val (.ref a), .val (.int n), .val (.int x0), .val (.int x1), .val (.int x2)] [(.int (2 : Int32)), (.int n)]))
        by_cases hc21_188 : (2 : Int32) < n
        · refine go _ _ (fun _ k => XS.icmpNo X120.here hx rfl (hb hby own_d2_21) rfl (tlt hc21_188).2.2.2 k) ?_
          show G (T120.setTop (mkF m 24 #[.val (.ref a), .val (.int n), .val (.int x0), .val (.int x1), .val (.int x2)] []))
          refine go _ _ (fun _ k => XS.aloadN X120.here hx rfl (hb hby own_d2_24) rfl rfl (XS.iload X120.here hx rfl (hb hby own_d2_25) rfl k)) ?_
          show G (T120.setTop (mkF m 27 #[.val (.ref a), .val (.int n), .val (.int x0), .val (.int x1), .val (.int x2)] [(.int x2), (.ref a)]))
          have K190 : Keep T102.heap T120.heap [a, wt2_104] := (Keep.refl T102.heap [a, wt2_104]).trans Kp120 (allS (Or.inl (List.mem_of_getElem? (i := 0) rfl)) (allS (Or.inl (List.mem_of_getElem? (i := 1) rfl)) all0))
          have F191 : Old Z n0 T120.heap := (F122.keep K190 (allS gz_a (allS (Nat.le_trans Z0 z110) all0)))
          have Z192 : h0.size ≤ T120.heap.size := Nat.le_trans Z123 Kp120.1
          obtain ⟨rv189, T189, L189, X189, q189, st189⟩ := own_vi X120 hx hZ (y := (⟨"com/example/hatoyama/hatoyama/IndexSet", "add", "(I)V"⟩ : MethodName)) (z := (⟨"com/example/hatoyama/hatoyama/IndexSet", "add", "(I)V"⟩ : MethodName)) hown (ow hw 21 rfl) (ow hw 22 rfl) (ow hw 24 rfl) (ow hw 23 rfl) (Or.inl rfl) (by decide) (own_bkN (W := 0) (rmAdd2 l Z a0 hw nk kk0 O_nk V_nk nw kw0 O_nw V_nw [] a x2 kt2_133 wt2_134 kk2_135 m0_137 m1_138 kw2_136 v0_139 v1_140 T120.heap n0 (Nat.le_trans Z0 Z192) F191 f145 f147 f148 f146 f149 f150 p143 gz_a (Nat.le_trans (Nat.le_trans Z0 Z123) z142)) hZ (ow hw 25 rfl) (ow hw 2 rfl) (by decide) (by decide)) rfl f145 (g := (mkF m 27 #[.val (.ref a), .val (.int n), .val (.int x0), .val (.int x1), .val (.int x2)] [(.int x2), (.ref a)])) rfl (by rw [hml]; rfl) (argsL := [(.int x2)]) (rest := []) rfl (lenOf own_pd5 rfl) rfl (by show 2 * 0 + _ ≤ _; exact Nat.le_of_eq rfl) (hb hby own_d2_27) (by decide) (by decide)
          obtain ⟨Nq189, Kp189, q189⟩ := q189
          have N189 := Fr.app N120 Nq189
          rcases q189 with ⟨v0_193, v1_194, rfl, p195, p196, f197, f198, f199, f200, f201, f202⟩ | ⟨kt2_203, wt2_204, kk2_205, kw2_206, m0_207, m1_208, m2_209, v0_210, v1_211, v2_212, rfl, z213, z214, p215, p216, f217, f218, f219, f220, f221, f222⟩
          · refine go _ _ (st189) ?_
            show G (T189.setTop (mkF m 30 #[.val (.ref a), .val (.int n), .val (.int x0), .val (.int x1), .val (.int x2)] []))
            have K223 : Keep h0 T120.heap [a] := K121.trans Kp120 (allS (Or.inl (List.mem_of_getElem? (i := 0) rfl)) (allS (Or.inr z110) all0))
            have K224 : Keep h0 T189.heap [a] := K223.trans Kp189 (allS (Or.inl (List.mem_of_getElem? (i := 0) rfl)) (allS (Or.inr (Nat.le_trans Z123 z142)) all0))
            have Is : own_IS Z T189.heap a ([(m0_137, v0_193), (m1_138, v1_194)] : List (Int32 × Int64)) := ⟨_, _, _, _, f198, f199, f200, f201, f202, (Nat.le_of_ble_eq_true rfl)⟩
            have Rp : own_Rep ([(m0_137, v0_193), (m1_138, v1_194)] : List (Int32 × Int64)) (own_L n x0 x1 x2) := by rw [own_L3 hc1_101 hc11_119 hc21_188]; exact (own_rep1 (own_rep1 (own_rep1 own_rep0 p112) p144) p196)
            refine fin T189 _ _ _ none X189 (fun _ => rfl) (by decide) (by decide) ⟨N189, K224, ⟨([(m0_137, v0_193), (m1_138, v1_194)] : List (Int32 × Int64)), rfl, p195, Rp, f197, Is⟩⟩ _ (own_retV X189 hx hret (hb hby own_d2_30))
          · refine go _ _ (st189) ?_
            show G (T189.setTop (mkF m 30 #[.val (.ref a), .val (.int n), .val (.int x0), .val (.int x1), .val (.int x2)] []))
            have K225 : Keep h0 T120.heap [a] := K121.trans Kp120 (allS (Or.inl (List.mem_of_getElem? (i := 0) rfl)) (allS (Or.inr z110) all0))
            have K226 : Keep h0 T189.heap [a] := K225.trans Kp189 (allS (Or.inl (List.mem_of_getElem? (i := 0) rfl)) (allS (Or.inr (Nat.le_trans Z123 z142)) all0))
            have Is : own_IS Z T189.heap a ([(m0_207, v0_210), (m1_208, v1_211), (m2_209, v2_212)] : List (Int32 × Int64)) := ⟨_, _, _, _, f218, f219, f220, f221, f222, (Nat.le_of_ble_eq_true rfl)⟩
            have Rp : own_Rep ([(m0_207, v0_210), (m1_208, v1_211), (m2_209, v2_212)] : List (Int32 × Int64)) (own_L n x0 x1 x2) := by rw [own_L3 hc1_101 hc11_119 hc21_188]; exact (own_rep1 (own_rep1 (own_rep1 own_rep0 p112) p144) p216)
            refine fin T189 _ _ _ none X189 (fun _ => rfl) (by decide) (by decide) ⟨N189, K226, ⟨([(m0_207, v0_210), (m1_208, v1_211), (m2_209, v2_212)] : List (Int32 × Int64)), rfl, p215, Rp, f217, Is⟩⟩ _ (own_retV X189 hx hret (hb hby own_d2_30))
        · refine go _ _ (fun _ k => XS.icmpYes X120.here hx rfl (pc0 := 21) (pc' := 30) rfl (hb hby own_d2_21) rfl (flt hc21_188).2.2.2 (by decide) (by decide) k) ?_
          show G (T120.setTop (mkF m 30 #[.val (.ref a), .val (.int n), .val (.int x0), .val (.int x1), .val (.int x2)] []))
          have K227 : Keep h0 T120.heap [a] := K121.trans Kp120 (allS (Or.inl (List.mem_of_getElem? (i := 0) rfl)) (allS (Or.inr z110) all0))
          have Is : own_IS Z T120.heap a ([(m0_137, v0_139), (m1_138, v1_140)] : List (Int32 × Int64)) := ⟨_, _, _, _, f146, f147, f148, f149, f150, (Nat.le_of_ble_eq_true rfl)⟩
          have Rp : own_Rep ([(m0_137, v0_139), (m1_138, v1_140)] : List (Int32 × Int64)) (own_L n x0 x1 x2) := by rw [own_L2 hc1_101 hc11_119 hc21_188]; exact (own_rep1 (own_rep1 own_rep0 p112) p144)
          refine fin T120 _ _ _ none X120 (fun _ => rfl) (by decide) (by decide) ⟨N120, K227, ⟨([(m0_137, v0_139), (m1_138, v1_140)] : List (Int32 × Int64)), rfl, p143, Rp, f145, Is⟩⟩ _ (own_retV X120 hx hret (hb hby own_d2_30))
    · refine go _ _ (fun _ k => XS.icmpYes X102.here hx rfl (pc0 := 11) (pc' := 19) rfl (hb hby own_d2_11) rfl (flt hc11_119).2.2.2 (by decide) (by decide) k) ?_
      show G (T102.setTop (mkF m 19 #[.val (.ref a), .val (.int n), .val (.int x0), .val (.int x1), .val (.int x2)] []))
      refine go _ _ (fun _ k => XS.iloadN X102.here hx rfl (hb hby own_d2_19) rfl (XS.iconst X102.here hx rfl (hb hby own_d2_20) k)) ?_
      show G (T102.setTop (mkF m 21 #[.val (.ref a), .val (.int n), .val (.int x0), .val (.int x1), .val (.int x2)] [(.int (2 : Int32)), (.int n)]))
      have ha228 : ¬ (2 : Int32) < n := by
        have ar0 : (2 : Int32).toInt = 2 := rfl
        have ar1 := own_rg n
        have ar2 : (0 : Int32).toInt = 0 := rfl
        have ar3 : (1 : Int32).toInt = 1 := rfl
        have hy0 := own_l hc1_101
        have hy1 := own_nl hc11_119
        exact own_nl' (by omega)
      refine go _ _ (fun _ k => XS.icmpYes X102.here hx rfl (pc0 := 21) (pc' := 30) rfl (hb hby own_d2_21) rfl (flt ha228).2.2.2 (by decide) (by decide) k) ?_
      show G (T102.setTop (mkF m 30 #[.val (.ref a), .val (.int n), .val (.int x0), .val (.int x1), .val (.int x2)] []))
      have K229 : Keep h0 T102.heap [a] := (Keep.refl h0 [a]).trans Kp102 (allS (Or.inl (List.mem_of_getElem? (i := 0) rfl)) all0)
      have Is : own_IS Z T102.heap a ([(m0_107, v0_108)] : List (Int32 × Int64)) := ⟨_, _, _, _, f114, f115, f116, f117, f118, (Nat.le_of_ble_eq_true rfl)⟩
      have Rp : own_Rep ([(m0_107, v0_108)] : List (Int32 × Int64)) (own_L n x0 x1 x2) := by rw [own_L1 hc1_101 hc11_119 ha228]; exact (own_rep1 own_rep0 p112)
      refine fin T102 _ _ _ none X102 (fun _ => rfl) (by decide) (by decide) ⟨N102, K229, ⟨([(m0_107, v0_108)] : List (Int32 × Int64)), rfl, p111, Rp, f113, Is⟩⟩ _ (own_retV X102 hx hret (hb hby own_d2_30))
  · refine go _ _ (fun _ k => XS.ifYes X0.here hx rfl (pc0 := 1) (pc' := 9) rfl (hb hby own_d2_1) rfl ((if0 _ _).trans (flt hc1_101).2.2.2) (by decide) (by decide) k) ?_
    show G (s₁.setTop (mkF m 9 #[.val (.ref a), .val (.int n), .val (.int x0), .val (.int x1), .val (.int x2)] []))
    refine go _ _ (fun _ k => XS.iloadN X0.here hx rfl (hb hby own_d2_9) rfl (XS.iconst X0.here hx rfl (hb hby own_d2_10) k)) ?_
    show G (s₁.setTop (mkF m 11 #[.val (.ref a), .val (.int n), .val (.int x0), .val (.int x1), .val (.int x2)] [(.int (1 : Int32)), (.int n)]))
    have ha230 : ¬ (1 : Int32) < n := by
      have ar0 : (1 : Int32).toInt = 1 := rfl
      have ar1 := own_rg n
      have ar2 : (0 : Int32).toInt = 0 := rfl
      have hy0 := own_nl hc1_101
      exact own_nl' (by omega)
    refine go _ _ (fun _ k => XS.icmpYes X0.here hx rfl (pc0 := 11) (pc' := 19) rfl (hb hby own_d2_11) rfl (flt ha230).2.2.2 (by decide) (by decide) k) ?_
    show G (s₁.setTop (mkF m 19 #[.val (.ref a), .val (.int n), .val (.int x0), .val (.int x1), .val (.int x2)] []))
    refine go _ _ (fun _ k => XS.iloadN X0.here hx rfl (hb hby own_d2_19) rfl (XS.iconst X0.here hx rfl (hb hby own_d2_20) k)) ?_
    show G (s₁.setTop (mkF m 21 #[.val (.ref a), .val (.int n), .val (.int x0), .val (.int x1), .val (.int x2)] [(.int (2 : Int32)), (.int n)]))
    have ha231 : ¬ (2 : Int32) < n := by
      have ar0 : (2 : Int32).toInt = 2 := rfl
      have ar1 := own_rg n
      have ar2 : (0 : Int32).toInt = 0 := rfl
      have ar3 : (1 : Int32).toInt = 1 := rfl
      have hy0 := own_nl hc1_101
      have hy1 := own_nl ha230
      exact own_nl' (by omega)
    refine go _ _ (fun _ k => XS.icmpYes X0.here hx rfl (pc0 := 21) (pc' := 30) rfl (hb hby own_d2_21) rfl (flt ha231).2.2.2 (by decide) (by decide) k) ?_
    show G (s₁.setTop (mkF m 30 #[.val (.ref a), .val (.int n), .val (.int x0), .val (.int x1), .val (.int x2)] []))
    have Is : own_IS Z h0 a ([] : List (Int32 × Int64)) := ⟨_, _, _, _, Fu, Fk, Fw, (V_nk.ext Xo.2), (V_nw.ext Xo.2), (Nat.le_of_ble_eq_true rfl)⟩
    have Rp : own_Rep ([] : List (Int32 × Int64)) (own_L n x0 x1 x2) := by rw [own_L0 hc1_101 ha230 ha231]; exact own_rep0
    refine fin s₁ _ _ _ none X0 (fun _ => rfl) (by decide) (by decide) (by rw [e0]; exact ⟨N0, (Keep.refl h0 [a]), ⟨([] : List (Int32 × Int64)), rfl, own_srt0, Rp, Ea, Is⟩⟩) _ (own_retV X0 hx hret (hb hby own_d2_30))
theorem own_d13_0 : decode prog_3_method_7_code 0 = .ok (.iconst 0, 1) := by decide +kernel
theorem own_d13_1 : decode prog_3_method_7_code 1 = .ok (.istore_n 2, 1) := by decide +kernel
theorem own_d13_2 : decode prog_3_method_7_code 2 = .ok (.iconst 0, 1) := by decide +kernel
theorem own_d13_3 : decode prog_3_method_7_code 3 = .ok (.istore_n 3, 1) := by decide +kernel
theorem own_d13_4 : decode prog_3_method_7_code 4 = .ok (.iconst 0, 1) := by decide +kernel
theorem own_d13_5 : decode prog_3_method_7_code 5 = .ok (.istore 4, 2) := by decide +kernel
theorem own_d13_7 : decode prog_3_method_7_code 7 = .ok (.iload_n 2, 1) := by decide +kernel
theorem own_d13_8 : decode prog_3_method_7_code 8 = .ok (.ifCond .ne 98, 3) := by decide +kernel
theorem own_d13_11 : decode prog_3_method_7_code 11 = .ok (.iload_n 3, 1) := by decide +kernel
theorem own_d13_12 : decode prog_3_method_7_code 12 = .ok (.aload_n 0, 1) := by decide +kernel
theorem own_d13_13 : decode prog_3_method_7_code 13 = .ok (.getfield 24, 3) := by decide +kernel
theorem own_d13_16 : decode prog_3_method_7_code 16 = .ok (.if_icmp .ge 90, 3) := by decide +kernel
theorem own_d13_19 : decode prog_3_method_7_code 19 = .ok (.iload 4, 2) := by decide +kernel
theorem own_d13_21 : decode prog_3_method_7_code 21 = .ok (.aload_n 1, 1) := by decide +kernel
theorem own_d13_22 : decode prog_3_method_7_code 22 = .ok (.getfield 24, 3) := by decide +kernel
theorem own_d13_25 : decode prog_3_method_7_code 25 = .ok (.if_icmp .ge 81, 3) := by decide +kernel
theorem own_d13_28 : decode prog_3_method_7_code 28 = .ok (.aload_n 0, 1) := by decide +kernel
theorem own_d13_29 : decode prog_3_method_7_code 29 = .ok (.getfield 13, 3) := by decide +kernel
theorem own_d13_32 : decode prog_3_method_7_code 32 = .ok (.iload_n 3, 1) := by decide +kernel
theorem own_d13_33 : decode prog_3_method_7_code 33 = .ok (.iaload, 1) := by decide +kernel
theorem own_d13_34 : decode prog_3_method_7_code 34 = .ok (.aload_n 1, 1) := by decide +kernel
theorem own_d13_35 : decode prog_3_method_7_code 35 = .ok (.getfield 13, 3) := by decide +kernel
theorem own_d13_38 : decode prog_3_method_7_code 38 = .ok (.iload 4, 2) := by decide +kernel
theorem own_d13_40 : decode prog_3_method_7_code 40 = .ok (.iaload, 1) := by decide +kernel
theorem own_d13_41 : decode prog_3_method_7_code 41 = .ok (.if_icmp .ge 9, 3) := by decide +kernel
theorem own_d13_44 : decode prog_3_method_7_code 44 = .ok (.iinc 3 1, 3) := by decide +kernel
theorem own_d13_47 : decode prog_3_method_7_code 47 = .ok (.goto (-40), 3) := by decide +kernel
theorem own_d13_50 : decode prog_3_method_7_code 50 = .ok (.aload_n 0, 1) := by decide +kernel
theorem own_d13_51 : decode prog_3_method_7_code 51 = .ok (.getfield 13, 3) := by decide +kernel
theorem own_d13_54 : decode prog_3_method_7_code 54 = .ok (.iload_n 3, 1) := by decide +kernel
theorem own_d13_55 : decode prog_3_method_7_code 55 = .ok (.iaload, 1) := by decide +kernel
theorem own_d13_56 : decode prog_3_method_7_code 56 = .ok (.aload_n 1, 1) := by decide +kernel
theorem own_d13_57 : decode prog_3_method_7_code 57 = .ok (.getfield 13, 3) := by decide +kernel
theorem own_d13_60 : decode prog_3_method_7_code 60 = .ok (.iload 4, 2) := by decide +kernel
theorem own_d13_62 : decode prog_3_method_7_code 62 = .ok (.iaload, 1) := by decide +kernel
theorem own_d13_63 : decode prog_3_method_7_code 63 = .ok (.if_icmp .le 9, 3) := by decide +kernel
theorem own_d13_66 : decode prog_3_method_7_code 66 = .ok (.iinc 4 1, 3) := by decide +kernel
theorem own_d13_69 : decode prog_3_method_7_code 69 = .ok (.goto (-62), 3) := by decide +kernel
theorem own_d13_72 : decode prog_3_method_7_code 72 = .ok (.aload_n 0, 1) := by decide +kernel
theorem own_d13_73 : decode prog_3_method_7_code 73 = .ok (.getfield 20, 3) := by decide +kernel
theorem own_d13_76 : decode prog_3_method_7_code 76 = .ok (.iload_n 3, 1) := by decide +kernel
theorem own_d13_77 : decode prog_3_method_7_code 77 = .ok (.laload, 1) := by decide +kernel
theorem own_d13_78 : decode prog_3_method_7_code 78 = .ok (.aload_n 1, 1) := by decide +kernel
theorem own_d13_79 : decode prog_3_method_7_code 79 = .ok (.getfield 20, 3) := by decide +kernel
theorem own_d13_82 : decode prog_3_method_7_code 82 = .ok (.iload 4, 2) := by decide +kernel
theorem own_d13_84 : decode prog_3_method_7_code 84 = .ok (.laload, 1) := by decide +kernel
theorem own_d13_85 : decode prog_3_method_7_code 85 = .ok (.land, 1) := by decide +kernel
theorem own_d13_86 : decode prog_3_method_7_code 86 = .ok (.lconst 0, 1) := by decide +kernel
theorem own_d13_87 : decode prog_3_method_7_code 87 = .ok (.lcmp, 1) := by decide +kernel
theorem own_d13_88 : decode prog_3_method_7_code 88 = .ok (.ifCond .eq 7, 3) := by decide +kernel
theorem own_d13_95 : decode prog_3_method_7_code 95 = .ok (.iconst 0, 1) := by decide +kernel
theorem own_d13_96 : decode prog_3_method_7_code 96 = .ok (.istore_n 2, 1) := by decide +kernel
theorem own_d13_97 : decode prog_3_method_7_code 97 = .ok (.iinc 3 1, 3) := by decide +kernel
theorem own_d13_100 : decode prog_3_method_7_code 100 = .ok (.iinc 4 1, 3) := by decide +kernel
theorem own_d13_103 : decode prog_3_method_7_code 103 = .ok (.goto (-96), 3) := by decide +kernel
theorem own_d13_91 : decode prog_3_method_7_code 91 = .ok (.iconst 1, 1) := by decide +kernel
theorem own_d13_92 : decode prog_3_method_7_code 92 = .ok (.goto 4, 3) := by decide +kernel
theorem own_d13_106 : decode prog_3_method_7_code 106 = .ok (.iload_n 2, 1) := by decide +kernel
theorem own_d13_107 : decode prog_3_method_7_code 107 = .ok (.ireturn, 1) := by decide +kernel
set_option maxHeartbeats 4000000 in
theorem own_ef_rm13 (m : MethodId) (x0 : Addr) (x1 : Addr) : entryFrame m #[(.ref x0), (.ref x1)] 5 = mkF m 0 #[.val (.ref x0), .val (.ref x1), .unset, .unset, .unset] [] := by rfl
set_option maxRecDepth 65536 in
set_option maxHeartbeats 40000000 in
theorem rm13 (l : Launch) (Z : State) (a0 : Array Value) (hw : ∀ d ∈ tables_1, d.before a0 Z = true) (nk : Addr) (kk0 : ClassId) (O_nk : Sta Z Z.heap "com/example/hatoyama/hatoyama/IndexSet" "NO_KEYS" "[I" (.ref nk)) (V_nk : Arv Z Z.heap nk kk0 .int (0 : Int32) [] (.int (0 : Int32))) (nw : Addr) (kw0 : ClassId) (O_nw : Sta Z Z.heap "com/example/hatoyama/hatoyama/IndexSet" "NO_WORDS" "[J" (.ref nw)) (V_nw : Arv Z Z.heap nw kw0 .long (0 : Int32) [] (.long (0 : Int64))) (ws : List Jvm.Cond) (a : Addr) (b : Addr) (ps : List (Int32 × Int64)) (qs : List (Int32 × Int64)) (h0 : Heap) (n0 : Nat) (Z0 : n0 ≤ h0.size) (Ia : own_IS Z h0 a ps) (Ib : own_IS Z h0 b qs) (hsp : own_Srt ps) (hsq : own_Srt qs) :
    own_MetN l Z (⟨"com/example/hatoyama/hatoyama/IndexSet", "intersects", "(Lcom/example/hatoyama/hatoyama/IndexSet;)Z"⟩ : MethodName) prog_3_method_7_code 5 (some .boolean) ws ({ frames := 0, cells := 0, slots := 0, locals := 0 } : Room) #[(.ref a), (.ref b)] h0 (fun v h L => Fr n0 L ∧ h = h0 ∧ (((v = some (.int (1 : Int32))) ∧ (own_Yes ps qs)) ∨ ((v = some (.int (0 : Int32))) ∧ (¬ own_Yes ps qs)))) := by
  refine own_metN (plainFor_of_name own_pn0) ?_
  intro p e s m below meth c s₁ G hx hby hml hZ hown hnm hret X0 e0 go fin
  have N0 := Fr.nil n0
  refine go _ _ (fun _ k => castTop (own_ef_rm13 m a b) k) ?_
  show G (s₁.setTop (mkF m 0 #[.val (.ref a), .val (.ref b), .unset, .unset, .unset] []))
  obtain ⟨ktp, wtp, kkp, kwp, Fup, Fkp, Fwp, Akp, Awp, lnp⟩ := id Ia
  obtain ⟨ktq, wtq, kkq, kwq, Fuq, Fkq, Fwq, Akq, Awq, lnq⟩ := id Ib
  refine go _ _ (fun _ k => XS.iconst X0.here hx rfl (hb hby own_d13_0) (XS.istoreN X0.here hx rfl (hb hby own_d13_1) rfl (l' := #[.val (.ref a), .val (.ref b), .val (.int (0 : Int32)), .unset, .unset]) rfl (XS.iconst X0.here hx rfl (hb hby own_d13_2) (XS.istoreN X0.here hx rfl (hb hby own_d13_3) rfl (l' := #[.val (.ref a), .val (.ref b), .val (.int (0 : Int32)), .val (.int (0 : Int32)), .unset]) rfl (XS.iconst X0.here hx rfl (hb hby own_d13_4) (XS.istore X0.here hx rfl (hb hby own_d13_5) rfl (l' := #[.val (.ref a), .val (.ref b), .val (.int (0 : Int32)), .val (.int (0 : Int32)), .val (.int (0 : Int32))]) rfl k)))))) ?_
  show G (s₁.setTop (mkF m 7 #[.val (.ref a), .val (.ref b), .val (.int (0 : Int32)), .val (.int (0 : Int32)), .val (.int (0 : Int32))] []))
  have J101 : ∀ (kf : Nat) (TL : State) (z : Int32) (i j : Nat), Stand p l e ({ frames := 0, cells := 0, slots := 0, locals := 0 } : Room) s m #[(.ref a), (.ref b)] below meth c TL [] 0 0 → TL.heap = h0 → i ≤ ps.length → j ≤ qs.length → ((z = 0 ∧ own_No ps qs i j) ∨ (z = 1 ∧ own_Yes ps qs)) → (ps.length - i) + (qs.length - j) < kf → G (TL.setTop (mkF m 7 #[.val (.ref a), .val (.ref b), .val (.int z), .val (.int (Int32.ofNat i)), .val (.int (Int32.ofNat j))] [])) := by
    intro kf
    induction kf with
    | zero => intro TL z i j XL eL hi hj hz hk; exact absurd hk (Nat.not_lt_zero _)
    | succ kf ih =>
      intro TL z i j XL eL hi hj hz hk
      rcases hz with ⟨rfl, hno⟩ | ⟨rfl, hyes⟩
      · show G (TL.setTop (mkF m 7 #[.val (.ref a), .val (.ref b), .val (.int (0 : Int32)), .val (.int (Int32.ofNat i)), .val (.int (Int32.ofNat j))] []))
        refine go _ _ (fun _ k => XS.iloadN XL.here hx rfl (hb hby own_d13_7) rfl k) ?_
        show G (TL.setTop (mkF m 8 #[.val (.ref a), .val (.ref b), .val (.int (0 : Int32)), .val (.int (Int32.ofNat i)), .val (.int (Int32.ofNat j))] [(.int (0 : Int32))]))
        refine go _ _ (fun _ k => XS.ifNo XL.here hx rfl (hb hby own_d13_8) rfl (by decide) k) ?_
        show G (TL.setTop (mkF m 11 #[.val (.ref a), .val (.ref b), .val (.int (0 : Int32)), .val (.int (Int32.ofNat i)), .val (.int (Int32.ofNat j))] []))
        refine go _ _ (fun _ k => XS.iloadN XL.here hx rfl (hb hby own_d13_11) rfl (XS.aloadN XL.here hx rfl (hb hby own_d13_12) rfl rfl k)) ?_
        show G (TL.setTop (mkF m 13 #[.val (.ref a), .val (.ref b), .val (.int (0 : Int32)), .val (.int (Int32.ofNat i)), .val (.int (Int32.ofNat j))] [(.ref a), (.int (Int32.ofNat i))]))
        obtain ⟨T102, X102, e102, st102⟩ := getF XL hx hZ hown (host := "") (Or.inl (ow hw 26 rfl)) Via.refl eL Fup (g := (mkF m 13 #[.val (.ref a), .val (.ref b), .val (.int (0 : Int32)), .val (.int (Int32.ofNat i)), .val (.int (Int32.ofNat j))] [(.ref a), (.int (Int32.ofNat i))])) rfl rfl (hb hby own_d13_13)
        refine go _ _ (st102) ?_
        show G (T102.setTop (mkF m 16 #[.val (.ref a), .val (.ref b), .val (.int (0 : Int32)), .val (.int (Int32.ofNat i)), .val (.int (Int32.ofNat j))] [(.int (Int32.ofNat ps.length)), (.int (Int32.ofNat i))]))
        by_cases hc16_103 : (Int32.ofNat i) < (Int32.ofNat ps.length)
        · refine go _ _ (fun _ k => XS.icmpNo X102.here hx rfl (hb hby own_d13_16) rfl (tlt hc16_103).2.1 k) ?_
          show G (T102.setTop (mkF m 19 #[.val (.ref a), .val (.ref b), .val (.int (0 : Int32)), .val (.int (Int32.ofNat i)), .val (.int (Int32.ofNat j))] []))
          refine go _ _ (fun _ k => XS.iload X102.here hx rfl (hb hby own_d13_19) rfl (XS.aloadN X102.here hx rfl (hb hby own_d13_21) rfl rfl k)) ?_
          show G (T102.setTop (mkF m 22 #[.val (.ref a), .val (.ref b), .val (.int (0 : Int32)), .val (.int (Int32.ofNat i)), .val (.int (Int32.ofNat j))] [(.ref b), (.int (Int32.ofNat j))]))
          obtain ⟨T104, X104, e104, st104⟩ := getF X102 hx hZ hown (host := "") (Or.inl (ow hw 26 rfl)) Via.refl e102 Fuq (g := (mkF m 22 #[.val (.ref a), .val (.ref b), .val (.int (0 : Int32)), .val (.int (Int32.ofNat i)), .val (.int (Int32.ofNat j))] [(.ref b), (.int (Int32.ofNat j))])) rfl rfl (hb hby own_d13_22)
          refine go _ _ (st104) ?_
          show G (T104.setTop (mkF m 25 #[.val (.ref a), .val (.ref b), .val (.int (0 : Int32)), .val (.int (Int32.ofNat i)), .val (.int (Int32.ofNat j))] [(.int (Int32.ofNat qs.length)), (.int (Int32.ofNat j))]))
          by_cases hc25_105 : (Int32.ofNat j) < (Int32.ofNat qs.length)
          · refine go _ _ (fun _ k => XS.icmpNo X104.here hx rfl (hb hby own_d13_25) rfl (tlt hc25_105).2.1 k) ?_
            show G (T104.setTop (mkF m 28 #[.val (.ref a), .val (.ref b), .val (.int (0 : Int32)), .val (.int (Int32.ofNat i)), .val (.int (Int32.ofNat j))] []))
            have hil : i < ps.length := (own_olt (by omega) (by omega)).mp hc16_103
            have hjl : j < qs.length := (own_olt (by omega) (by omega)).mp hc25_105
            obtain ⟨p, hpi⟩ : ∃ p, ps[i]? = some p := ⟨_, List.getElem?_eq_getElem hil⟩
            obtain ⟨q, hqj⟩ : ∃ q, qs[j]? = some q := ⟨_, List.getElem?_eq_getElem hjl⟩
            refine go _ _ (fun _ k => XS.aloadN X104.here hx rfl (hb hby own_d13_28) rfl rfl k) ?_
            show G (T104.setTop (mkF m 29 #[.val (.ref a), .val (.ref b), .val (.int (0 : Int32)), .val (.int (Int32.ofNat i)), .val (.int (Int32.ofNat j))] [(.ref a)]))
            obtain ⟨T106, X106, e106, st106⟩ := getF X104 hx hZ hown (host := "") (Or.inl (ow hw 11 rfl)) Via.refl e104 Fkp (g := (mkF m 29 #[.val (.ref a), .val (.ref b), .val (.int (0 : Int32)), .val (.int (Int32.ofNat i)), .val (.int (Int32.ofNat j))] [(.ref a)])) rfl rfl (hb hby own_d13_29)
            refine go _ _ (st106) ?_
            show G (T106.setTop (mkF m 32 #[.val (.ref a), .val (.ref b), .val (.int (0 : Int32)), .val (.int (Int32.ofNat i)), .val (.int (Int32.ofNat j))] [(.ref ktp)]))
            refine go _ _ (fun _ k => XS.iloadN X106.here hx rfl (hb hby own_d13_32) rfl k) ?_
            show G (T106.setTop (mkF m 33 #[.val (.ref a), .val (.ref b), .val (.int (0 : Int32)), .val (.int (Int32.ofNat i)), .val (.int (Int32.ofNat j))] [(.int (Int32.ofNat i)), (.ref ktp)]))
            obtain ⟨cl107, Ar107, q107, S107, M107, H107, U107⟩ := id Akp
            have ib107 := inb_of (j := (Int32.ofNat i)) S107 ⟨own_o0 (n := i) (by omega), hc16_103⟩
            refine go _ _ (fun _ k => X106.iaload hx (j := (Int32.ofNat i)) (v := (.int p.1)) (by rw [e106]; exact Ar107.1) (State.isArrayOf_alike hZ.alike Ar107.2.1) Ar107.2.2 ib107 (Has.at H107 ib107 (own_lv (by omega) hpi).1) (g := (mkF m 33 #[.val (.ref a), .val (.ref b), .val (.int (0 : Int32)), .val (.int (Int32.ofNat i)), .val (.int (Int32.ofNat j))] [(.int (Int32.ofNat i)), (.ref ktp)])) rfl rfl (hb hby own_d13_33) _ k) ?_
            show G (T106.setTop (mkF m 34 #[.val (.ref a), .val (.ref b), .val (.int (0 : Int32)), .val (.int (Int32.ofNat i)), .val (.int (Int32.ofNat j))] [(.int p.1)]))
            refine go _ _ (fun _ k => XS.aloadN X106.here hx rfl (hb hby own_d13_34) rfl rfl k) ?_
            show G (T106.setTop (mkF m 35 #[.val (.ref a), .val (.ref b), .val (.int (0 : Int32)), .val (.int (Int32.ofNat i)), .val (.int (Int32.ofNat j))] [(.ref b), (.int p.1)]))
            obtain ⟨T108, X108, e108, st108⟩ := getF X106 hx hZ hown (host := "") (Or.inl (ow hw 11 rfl)) Via.refl e106 Fkq (g := (mkF m 35 #[.val (.ref a), .val (.ref b), .val (.int (0 : Int32)), .val (.int (Int32.ofNat i)), .val (.int (Int32.ofNat j))] [(.ref b), (.int p.1)])) rfl rfl (hb hby own_d13_35)
            refine go _ _ (st108) ?_
            show G (T108.setTop (mkF m 38 #[.val (.ref a), .val (.ref b), .val (.int (0 : Int32)), .val (.int (Int32.ofNat i)), .val (.int (Int32.ofNat j))] [(.ref ktq), (.int p.1)]))
            refine go _ _ (fun _ k => XS.iload X108.here hx rfl (hb hby own_d13_38) rfl k) ?_
            show G (T108.setTop (mkF m 40 #[.val (.ref a), .val (.ref b), .val (.int (0 : Int32)), .val (.int (Int32.ofNat i)), .val (.int (Int32.ofNat j))] [(.int (Int32.ofNat j)), (.ref ktq), (.int p.1)]))
            obtain ⟨cl109, Ar109, q109, S109, M109, H109, U109⟩ := id Akq
            have ib109 := inb_of (j := (Int32.ofNat j)) S109 ⟨own_o0 (n := j) (by omega), hc25_105⟩
            refine go _ _ (fun _ k => X108.iaload hx (j := (Int32.ofNat j)) (v := (.int q.1)) (by rw [e108]; exact Ar109.1) (State.isArrayOf_alike hZ.alike Ar109.2.1) Ar109.2.2 ib109 (Has.at H109 ib109 (own_lv (by omega) hqj).1) (g := (mkF m 40 #[.val (.ref a), .val (.ref b), .val (.int (0 : Int32)), .val (.int (Int32.ofNat i)), .val (.int (Int32.ofNat j))] [(.int (Int32.ofNat j)), (.ref ktq), (.int p.1)])) rfl rfl (hb hby own_d13_40) _ k) ?_
            show G (T108.setTop (mkF m 41 #[.val (.ref a), .val (.ref b), .val (.int (0 : Int32)), .val (.int (Int32.ofNat i)), .val (.int (Int32.ofNat j))] [(.int q.1), (.int p.1)]))
            by_cases hc41_110 : p.1 < q.1
            · refine go _ _ (fun _ k => XS.icmpNo X108.here hx rfl (hb hby own_d13_41) rfl (tlt hc41_110).2.1 k) ?_
              show G (T108.setTop (mkF m 44 #[.val (.ref a), .val (.ref b), .val (.int (0 : Int32)), .val (.int (Int32.ofNat i)), .val (.int (Int32.ofNat j))] []))
              refine go _ _ (fun _ k => XS.iinc X108.here hx rfl (hb hby own_d13_44) rfl (l' := #[.val (.ref a), .val (.ref b), .val (.int (0 : Int32)), .val (.int ((Int32.ofNat i) + (1 : Int32))), .val (.int (Int32.ofNat j))]) rfl k) ?_
              show G (T108.setTop (mkF m 47 #[.val (.ref a), .val (.ref b), .val (.int (0 : Int32)), .val (.int ((Int32.ofNat i) + (1 : Int32))), .val (.int (Int32.ofNat j))] []))
              refine go _ _ (fun _ k => XS.goto X108.here hx rfl (pc0 := 47) (pc' := 7) rfl (hb hby own_d13_47) (by decide) (by decide) k) ?_
              show G (T108.setTop (mkF m 7 #[.val (.ref a), .val (.ref b), .val (.int (0 : Int32)), .val (.int ((Int32.ofNat i) + (1 : Int32))), .val (.int (Int32.ofNat j))] []))
              rw [own_os]
              show G (T108.setTop (mkF m 7 #[.val (.ref a), .val (.ref b), .val (.int (0 : Int32)), .val (.int (Int32.ofNat (i + 1))), .val (.int (Int32.ofNat j))] []))
              exact ih _ _ _ _ X108 e108 (by omega) (by omega) (Or.inl ⟨rfl, own_no_l hsq hpi hqj hno hc41_110⟩) (by omega)
            · refine go _ _ (fun _ k => XS.icmpYes X108.here hx rfl (pc0 := 41) (pc' := 50) rfl (hb hby own_d13_41) rfl (flt hc41_110).2.1 (by decide) (by decide) k) ?_
              show G (T108.setTop (mkF m 50 #[.val (.ref a), .val (.ref b), .val (.int (0 : Int32)), .val (.int (Int32.ofNat i)), .val (.int (Int32.ofNat j))] []))
              refine go _ _ (fun _ k => XS.aloadN X108.here hx rfl (hb hby own_d13_50) rfl rfl k) ?_
              show G (T108.setTop (mkF m 51 #[.val (.ref a), .val (.ref b), .val (.int (0 : Int32)), .val (.int (Int32.ofNat i)), .val (.int (Int32.ofNat j))] [(.ref a)]))
              obtain ⟨T111, X111, e111, st111⟩ := getF X108 hx hZ hown (host := "") (Or.inl (ow hw 11 rfl)) Via.refl e108 Fkp (g := (mkF m 51 #[.val (.ref a), .val (.ref b), .val (.int (0 : Int32)), .val (.int (Int32.ofNat i)), .val (.int (Int32.ofNat j))] [(.ref a)])) rfl rfl (hb hby own_d13_51)
              refine go _ _ (st111) ?_
              show G (T111.setTop (mkF m 54 #[.val (.ref a), .val (.ref b), .val (.int (0 : Int32)), .val (.int (Int32.ofNat i)), .val (.int (Int32.ofNat j))] [(.ref ktp)]))
              refine go _ _ (fun _ k => XS.iloadN X111.here hx rfl (hb hby own_d13_54) rfl k) ?_
              show G (T111.setTop (mkF m 55 #[.val (.ref a), .val (.ref b), .val (.int (0 : Int32)), .val (.int (Int32.ofNat i)), .val (.int (Int32.ofNat j))] [(.int (Int32.ofNat i)), (.ref ktp)]))
              obtain ⟨cl112, Ar112, q112, S112, M112, H112, U112⟩ := id Akp
              have ib112 := inb_of (j := (Int32.ofNat i)) S112 ⟨own_o0 (n := i) (by omega), hc16_103⟩
              refine go _ _ (fun _ k => X111.iaload hx (j := (Int32.ofNat i)) (v := (.int p.1)) (by rw [e111]; exact Ar112.1) (State.isArrayOf_alike hZ.alike Ar112.2.1) Ar112.2.2 ib112 (Has.at H112 ib112 (own_lv (by omega) hpi).1) (g := (mkF m 55 #[.val (.ref a), .val (.ref b), .val (.int (0 : Int32)), .val (.int (Int32.ofNat i)), .val (.int (Int32.ofNat j))] [(.int (Int32.ofNat i)), (.ref ktp)])) rfl rfl (hb hby own_d13_55) _ k) ?_
              show G (T111.setTop (mkF m 56 #[.val (.ref a), .val (.ref b), .val (.int (0 : Int32)), .val (.int (Int32.ofNat i)), .val (.int (Int32.ofNat j))] [(.int p.1)]))
              refine go _ _ (fun _ k => XS.aloadN X111.here hx rfl (hb hby own_d13_56) rfl rfl k) ?_
              show G (T111.setTop (mkF m 57 #[.val (.ref a), .val (.ref b), .val (.int (0 : Int32)), .val (.int (Int32.ofNat i)), .val (.int (Int32.ofNat j))] [(.ref b), (.int p.1)]))
              obtain ⟨T113, X113, e113, st113⟩ := getF X111 hx hZ hown (host := "") (Or.inl (ow hw 11 rfl)) Via.refl e111 Fkq (g := (mkF m 57 #[.val (.ref a), .val (.ref b), .val (.int (0 : Int32)), .val (.int (Int32.ofNat i)), .val (.int (Int32.ofNat j))] [(.ref b), (.int p.1)])) rfl rfl (hb hby own_d13_57)
              refine go _ _ (st113) ?_
              show G (T113.setTop (mkF m 60 #[.val (.ref a), .val (.ref b), .val (.int (0 : Int32)), .val (.int (Int32.ofNat i)), .val (.int (Int32.ofNat j))] [(.ref ktq), (.int p.1)]))
              refine go _ _ (fun _ k => XS.iload X113.here hx rfl (hb hby own_d13_60) rfl k) ?_
              show G (T113.setTop (mkF m 62 #[.val (.ref a), .val (.ref b), .val (.int (0 : Int32)), .val (.int (Int32.ofNat i)), .val (.int (Int32.ofNat j))] [(.int (Int32.ofNat j)), (.ref ktq), (.int p.1)]))
              obtain ⟨cl114, Ar114, q114, S114, M114, H114, U114⟩ := id Akq
              have ib114 := inb_of (j := (Int32.ofNat j)) S114 ⟨own_o0 (n := j) (by omega), hc25_105⟩
              refine go _ _ (fun _ k => X113.iaload hx (j := (Int32.ofNat j)) (v := (.int q.1)) (by rw [e113]; exact Ar114.1) (State.isArrayOf_alike hZ.alike Ar114.2.1) Ar114.2.2 ib114 (Has.at H114 ib114 (own_lv (by omega) hqj).1) (g := (mkF m 62 #[.val (.ref a), .val (.ref b), .val (.int (0 : Int32)), .val (.int (Int32.ofNat i)), .val (.int (Int32.ofNat j))] [(.int (Int32.ofNat j)), (.ref ktq), (.int p.1)])) rfl rfl (hb hby own_d13_62) _ k) ?_
              show G (T113.setTop (mkF m 63 #[.val (.ref a), .val (.ref b), .val (.int (0 : Int32)), .val (.int (Int32.ofNat i)), .val (.int (Int32.ofNat j))] [(.int q.1), (.int p.1)]))
              by_cases hc63_115 : q.1 < p.1
              · refine go _ _ (fun _ k => XS.icmpNo X113.here hx rfl (hb hby own_d13_63) rfl (tlt hc63_115).2.2.2 k) ?_
                show G (T113.setTop (mkF m 66 #[.val (.ref a), .val (.ref b), .val (.int (0 : Int32)), .val (.int (Int32.ofNat i)), .val (.int (Int32.ofNat j))] []))
                refine go _ _ (fun _ k => XS.iinc X113.here hx rfl (hb hby own_d13_66) rfl (l' := #[.val (.ref a), .val (.ref b), .val (.int (0 : Int32)), .val (.int (Int32.ofNat i)), .val (.int ((Int32.ofNat j) + (1 : Int32)))]) rfl k) ?_
                show G (T113.setTop (mkF m 69 #[.val (.ref a), .val (.ref b), .val (.int (0 : Int32)), .val (.int (Int32.ofNat i)), .val (.int ((Int32.ofNat j) + (1 : Int32)))] []))
                refine go _ _ (fun _ k => XS.goto X113.here hx rfl (pc0 := 69) (pc' := 7) rfl (hb hby own_d13_69) (by decide) (by decide) k) ?_
                show G (T113.setTop (mkF m 7 #[.val (.ref a), .val (.ref b), .val (.int (0 : Int32)), .val (.int (Int32.ofNat i)), .val (.int ((Int32.ofNat j) + (1 : Int32)))] []))
                rw [own_os]
                show G (T113.setTop (mkF m 7 #[.val (.ref a), .val (.ref b), .val (.int (0 : Int32)), .val (.int (Int32.ofNat i)), .val (.int (Int32.ofNat (j + 1)))] []))
                exact ih _ _ _ _ X113 e113 (by omega) (by omega) (Or.inl ⟨rfl, own_no_r hsp hpi hqj hno hc63_115⟩) (by omega)
              · refine go _ _ (fun _ k => XS.icmpYes X113.here hx rfl (pc0 := 63) (pc' := 72) rfl (hb hby own_d13_63) rfl (flt hc63_115).2.2.2 (by decide) (by decide) k) ?_
                show G (T113.setTop (mkF m 72 #[.val (.ref a), .val (.ref b), .val (.int (0 : Int32)), .val (.int (Int32.ofNat i)), .val (.int (Int32.ofNat j))] []))
                refine go _ _ (fun _ k => XS.aloadN X113.here hx rfl (hb hby own_d13_72) rfl rfl k) ?_
                show G (T113.setTop (mkF m 73 #[.val (.ref a), .val (.ref b), .val (.int (0 : Int32)), .val (.int (Int32.ofNat i)), .val (.int (Int32.ofNat j))] [(.ref a)]))
                obtain ⟨T116, X116, e116, st116⟩ := getF X113 hx hZ hown (host := "") (Or.inl (ow hw 15 rfl)) Via.refl e113 Fwp (g := (mkF m 73 #[.val (.ref a), .val (.ref b), .val (.int (0 : Int32)), .val (.int (Int32.ofNat i)), .val (.int (Int32.ofNat j))] [(.ref a)])) rfl rfl (hb hby own_d13_73)
                refine go _ _ (st116) ?_
                show G (T116.setTop (mkF m 76 #[.val (.ref a), .val (.ref b), .val (.int (0 : Int32)), .val (.int (Int32.ofNat i)), .val (.int (Int32.ofNat j))] [(.ref wtp)]))
                refine go _ _ (fun _ k => XS.iloadN X116.here hx rfl (hb hby own_d13_76) rfl k) ?_
                show G (T116.setTop (mkF m 77 #[.val (.ref a), .val (.ref b), .val (.int (0 : Int32)), .val (.int (Int32.ofNat i)), .val (.int (Int32.ofNat j))] [(.int (Int32.ofNat i)), (.ref wtp)]))
                obtain ⟨cl117, Ar117, q117, S117, M117, H117, U117⟩ := id Awp
                have ib117 := inb_of (j := (Int32.ofNat i)) S117 ⟨own_o0 (n := i) (by omega), hc16_103⟩
                refine go _ _ (fun _ k => X116.laload hx (j := (Int32.ofNat i)) (v := (.long p.2)) (by rw [e116]; exact Ar117.1) (State.isArrayOf_alike hZ.alike Ar117.2.1) Ar117.2.2 ib117 (Has.at H117 ib117 (own_lv (by omega) hpi).2) (g := (mkF m 77 #[.val (.ref a), .val (.ref b), .val (.int (0 : Int32)), .val (.int (Int32.ofNat i)), .val (.int (Int32.ofNat j))] [(.int (Int32.ofNat i)), (.ref wtp)])) rfl rfl (hb hby own_d13_77) _ k) ?_
                show G (T116.setTop (mkF m 78 #[.val (.ref a), .val (.ref b), .val (.int (0 : Int32)), .val (.int (Int32.ofNat i)), .val (.int (Int32.ofNat j))] [(.long p.2)]))
                refine go _ _ (fun _ k => XS.aloadN X116.here hx rfl (hb hby own_d13_78) rfl rfl k) ?_
                show G (T116.setTop (mkF m 79 #[.val (.ref a), .val (.ref b), .val (.int (0 : Int32)), .val (.int (Int32.ofNat i)), .val (.int (Int32.ofNat j))] [(.ref b), (.long p.2)]))
                obtain ⟨T118, X118, e118, st118⟩ := getF X116 hx hZ hown (host := "") (Or.inl (ow hw 15 rfl)) Via.refl e116 Fwq (g := (mkF m 79 #[.val (.ref a), .val (.ref b), .val (.int (0 : Int32)), .val (.int (Int32.ofNat i)), .val (.int (Int32.ofNat j))] [(.ref b), (.long p.2)])) rfl rfl (hb hby own_d13_79)
                refine go _ _ (st118) ?_
                show G (T118.setTop (mkF m 82 #[.val (.ref a), .val (.ref b), .val (.int (0 : Int32)), .val (.int (Int32.ofNat i)), .val (.int (Int32.ofNat j))] [(.ref wtq), (.long p.2)]))
                refine go _ _ (fun _ k => XS.iload X118.here hx rfl (hb hby own_d13_82) rfl k) ?_
                show G (T118.setTop (mkF m 84 #[.val (.ref a), .val (.ref b), .val (.int (0 : Int32)), .val (.int (Int32.ofNat i)), .val (.int (Int32.ofNat j))] [(.int (Int32.ofNat j)), (.ref wtq), (.long p.2)]))
                obtain ⟨cl119, Ar119, q119, S119, M119, H119, U119⟩ := id Awq
                have ib119 := inb_of (j := (Int32.ofNat j)) S119 ⟨own_o0 (n := j) (by omega), hc25_105⟩
                refine go _ _ (fun _ k => X118.laload hx (j := (Int32.ofNat j)) (v := (.long q.2)) (by rw [e118]; exact Ar119.1) (State.isArrayOf_alike hZ.alike Ar119.2.1) Ar119.2.2 ib119 (Has.at H119 ib119 (own_lv (by omega) hqj).2) (g := (mkF m 84 #[.val (.ref a), .val (.ref b), .val (.int (0 : Int32)), .val (.int (Int32.ofNat i)), .val (.int (Int32.ofNat j))] [(.int (Int32.ofNat j)), (.ref wtq), (.long p.2)])) rfl rfl (hb hby own_d13_84) _ k) ?_
                show G (T118.setTop (mkF m 85 #[.val (.ref a), .val (.ref b), .val (.int (0 : Int32)), .val (.int (Int32.ofNat i)), .val (.int (Int32.ofNat j))] [(.long q.2), (.long p.2)]))
                refine go _ _ (fun _ k => XS.land X118.here hx rfl (hb hby own_d13_85) rfl (XS.lconst X118.here hx rfl (hb hby own_d13_86) (XS.lcmp X118.here hx rfl (hb hby own_d13_87) rfl k))) ?_
                show G (T118.setTop (mkF m 88 #[.val (.ref a), .val (.ref b), .val (.int (0 : Int32)), .val (.int (Int32.ofNat i)), .val (.int (Int32.ofNat j))] [(.int (if (p.2 &&& q.2) > (0 : Int64) then 1 else if (p.2 &&& q.2) = (0 : Int64) then 0 else -1))]))
                by_cases cq120 : p.2 &&& q.2 = 0
                · refine go _ _ (fun _ k => XS.ifYes X118.here hx rfl (pc0 := 88) (pc' := 95) rfl (hb hby own_d13_88) rfl ((if0 _ _).trans (teq (own_lc0 cq120)).1) (by decide) (by decide) k) ?_
                  show G (T118.setTop (mkF m 95 #[.val (.ref a), .val (.ref b), .val (.int (0 : Int32)), .val (.int (Int32.ofNat i)), .val (.int (Int32.ofNat j))] []))
                  refine go _ _ (fun _ k => XS.iconst X118.here hx rfl (hb hby own_d13_95) (XS.istoreN X118.here hx rfl (hb hby own_d13_96) rfl (l' := #[.val (.ref a), .val (.ref b), .val (.int (0 : Int32)), .val (.int (Int32.ofNat i)), .val (.int (Int32.ofNat j))]) rfl (XS.iinc X118.here hx rfl (hb hby own_d13_97) rfl (l' := #[.val (.ref a), .val (.ref b), .val (.int (0 : Int32)), .val (.int ((Int32.ofNat i) + (1 : Int32))), .val (.int (Int32.ofNat j))]) rfl (XS.iinc X118.here hx rfl (hb hby own_d13_100) rfl (l' := #[.val (.ref a), .val (.ref b), .val (.int (0 : Int32)), .val (.int ((Int32.ofNat i) + (1 : Int32))), .val (.int ((Int32.ofNat j) + (1 : Int32)))]) rfl k)))) ?_
                  show G (T118.setTop (mkF m 103 #[.val (.ref a), .val (.ref b), .val (.int (0 : Int32)), .val (.int ((Int32.ofNat i) + (1 : Int32))), .val (.int ((Int32.ofNat j) + (1 : Int32)))] []))
                  refine go _ _ (fun _ k => XS.goto X118.here hx rfl (pc0 := 103) (pc' := 7) rfl (hb hby own_d13_103) (by decide) (by decide) k) ?_
                  show G (T118.setTop (mkF m 7 #[.val (.ref a), .val (.ref b), .val (.int (0 : Int32)), .val (.int ((Int32.ofNat i) + (1 : Int32))), .val (.int ((Int32.ofNat j) + (1 : Int32)))] []))
                  rw [own_os]
                  show G (T118.setTop (mkF m 7 #[.val (.ref a), .val (.ref b), .val (.int (0 : Int32)), .val (.int (Int32.ofNat (i + 1))), .val (.int ((Int32.ofNat j) + (1 : Int32)))] []))
                  rw [own_os]
                  show G (T118.setTop (mkF m 7 #[.val (.ref a), .val (.ref b), .val (.int (0 : Int32)), .val (.int (Int32.ofNat (i + 1))), .val (.int (Int32.ofNat (j + 1)))] []))
                  exact ih _ _ _ _ X118 e118 (by omega) (by omega) (Or.inl ⟨rfl, own_no_b hsp hsq hpi hqj hno (own_ee hc41_110 hc63_115) cq120⟩) (by omega)
                · refine go _ _ (fun _ k => XS.ifNo X118.here hx rfl (hb hby own_d13_88) rfl ((if0 _ _).trans (feq (own_lc1 cq120)).1) k) ?_
                  show G (T118.setTop (mkF m 91 #[.val (.ref a), .val (.ref b), .val (.int (0 : Int32)), .val (.int (Int32.ofNat i)), .val (.int (Int32.ofNat j))] []))
                  refine go _ _ (fun _ k => XS.iconst X118.here hx rfl (hb hby own_d13_91) k) ?_
                  show G (T118.setTop (mkF m 92 #[.val (.ref a), .val (.ref b), .val (.int (0 : Int32)), .val (.int (Int32.ofNat i)), .val (.int (Int32.ofNat j))] [(.int (1 : Int32))]))
                  refine go _ _ (fun _ k => XS.goto X118.here hx rfl (pc0 := 92) (pc' := 96) rfl (hb hby own_d13_92) (by decide) (by decide) k) ?_
                  show G (T118.setTop (mkF m 96 #[.val (.ref a), .val (.ref b), .val (.int (0 : Int32)), .val (.int (Int32.ofNat i)), .val (.int (Int32.ofNat j))] [(.int (1 : Int32))]))
                  refine go _ _ (fun _ k => XS.istoreN X118.here hx rfl (hb hby own_d13_96) rfl (l' := #[.val (.ref a), .val (.ref b), .val (.int (1 : Int32)), .val (.int (Int32.ofNat i)), .val (.int (Int32.ofNat j))]) rfl (XS.iinc X118.here hx rfl (hb hby own_d13_97) rfl (l' := #[.val (.ref a), .val (.ref b), .val (.int (1 : Int32)), .val (.int ((Int32.ofNat i) + (1 : Int32))), .val (.int (Int32.ofNat j))]) rfl (XS.iinc X118.here hx rfl (hb hby own_d13_100) rfl (l' := #[.val (.ref a), .val (.ref b), .val (.int (1 : Int32)), .val (.int ((Int32.ofNat i) + (1 : Int32))), .val (.int ((Int32.ofNat j) + (1 : Int32)))]) rfl k))) ?_
                  show G (T118.setTop (mkF m 103 #[.val (.ref a), .val (.ref b), .val (.int (1 : Int32)), .val (.int ((Int32.ofNat i) + (1 : Int32))), .val (.int ((Int32.ofNat j) + (1 : Int32)))] []))
                  refine go _ _ (fun _ k => XS.goto X118.here hx rfl (pc0 := 103) (pc' := 7) rfl (hb hby own_d13_103) (by decide) (by decide) k) ?_
                  show G (T118.setTop (mkF m 7 #[.val (.ref a), .val (.ref b), .val (.int (1 : Int32)), .val (.int ((Int32.ofNat i) + (1 : Int32))), .val (.int ((Int32.ofNat j) + (1 : Int32)))] []))
                  rw [own_os]
                  show G (T118.setTop (mkF m 7 #[.val (.ref a), .val (.ref b), .val (.int (1 : Int32)), .val (.int (Int32.ofNat (i + 1))), .val (.int ((Int32.ofNat j) + (1 : Int32)))] []))
                  rw [own_os]
                  show G (T118.setTop (mkF m 7 #[.val (.ref a), .val (.ref b), .val (.int (1 : Int32)), .val (.int (Int32.ofNat (i + 1))), .val (.int (Int32.ofNat (j + 1)))] []))
                  exact ih _ _ _ _ X118 e118 (by omega) (by omega) (Or.inr ⟨rfl, ⟨p, List.mem_of_getElem? hpi, q, List.mem_of_getElem? hqj, (own_ee hc41_110 hc63_115), cq120⟩⟩) (by omega)
          · refine go _ _ (fun _ k => XS.icmpYes X104.here hx rfl (pc0 := 25) (pc' := 106) rfl (hb hby own_d13_25) rfl (flt hc25_105).2.1 (by decide) (by decide) k) ?_
            show G (T104.setTop (mkF m 106 #[.val (.ref a), .val (.ref b), .val (.int (0 : Int32)), .val (.int (Int32.ofNat i)), .val (.int (Int32.ofNat j))] []))
            refine go _ _ (fun _ k => XS.iloadN X104.here hx rfl (hb hby own_d13_106) rfl k) ?_
            show G (T104.setTop (mkF m 107 #[.val (.ref a), .val (.ref b), .val (.int (0 : Int32)), .val (.int (Int32.ofNat i)), .val (.int (Int32.ofNat j))] [(.int (0 : Int32))]))
            refine fin T104 _ _ _ (some (.int (0 : Int32))) X104 (fun q => nomatch q) (by decide) (by decide) (by rw [e104]; exact ⟨N0, rfl, (Or.inr ⟨rfl, (own_no_end hno (Or.inr (Nat.le_of_not_lt fun y => hc25_105 ((own_olt (by omega) (by omega)).mpr y))))⟩)⟩) _ (own_retN X104 hx (z := (0 : Int32)) (t := .boolean) hret (by simp) (hb hby own_d13_107))
        · refine go _ _ (fun _ k => XS.icmpYes X102.here hx rfl (pc0 := 16) (pc' := 106) rfl (hb hby own_d13_16) rfl (flt hc16_103).2.1 (by decide) (by decide) k) ?_
          show G (T102.setTop (mkF m 106 #[.val (.ref a), .val (.ref b), .val (.int (0 : Int32)), .val (.int (Int32.ofNat i)), .val (.int (Int32.ofNat j))] []))
          refine go _ _ (fun _ k => XS.iloadN X102.here hx rfl (hb hby own_d13_106) rfl k) ?_
          show G (T102.setTop (mkF m 107 #[.val (.ref a), .val (.ref b), .val (.int (0 : Int32)), .val (.int (Int32.ofNat i)), .val (.int (Int32.ofNat j))] [(.int (0 : Int32))]))
          refine fin T102 _ _ _ (some (.int (0 : Int32))) X102 (fun q => nomatch q) (by decide) (by decide) (by rw [e102]; exact ⟨N0, rfl, (Or.inr ⟨rfl, (own_no_end hno (Or.inl (Nat.le_of_not_lt fun y => hc16_103 ((own_olt (by omega) (by omega)).mpr y))))⟩)⟩) _ (own_retN X102 hx (z := (0 : Int32)) (t := .boolean) hret (by simp) (hb hby own_d13_107))
      · show G (TL.setTop (mkF m 7 #[.val (.ref a), .val (.ref b), .val (.int (1 : Int32)), .val (.int (Int32.ofNat i)), .val (.int (Int32.ofNat j))] []))
        refine go _ _ (fun _ k => XS.iloadN XL.here hx rfl (hb hby own_d13_7) rfl k) ?_
        show G (TL.setTop (mkF m 8 #[.val (.ref a), .val (.ref b), .val (.int (1 : Int32)), .val (.int (Int32.ofNat i)), .val (.int (Int32.ofNat j))] [(.int (1 : Int32))]))
        refine go _ _ (fun _ k => XS.ifYes XL.here hx rfl (pc0 := 8) (pc' := 106) rfl (hb hby own_d13_8) rfl (by decide) (by decide) (by decide) k) ?_
        show G (TL.setTop (mkF m 106 #[.val (.ref a), .val (.ref b), .val (.int (1 : Int32)), .val (.int (Int32.ofNat i)), .val (.int (Int32.ofNat j))] []))
        refine go _ _ (fun _ k => XS.iloadN XL.here hx rfl (hb hby own_d13_106) rfl k) ?_
        show G (TL.setTop (mkF m 107 #[.val (.ref a), .val (.ref b), .val (.int (1 : Int32)), .val (.int (Int32.ofNat i)), .val (.int (Int32.ofNat j))] [(.int (1 : Int32))]))
        refine fin TL _ _ _ (some (.int (1 : Int32))) XL (fun q => nomatch q) (by decide) (by decide) (by rw [eL]; exact ⟨N0, rfl, (Or.inl ⟨rfl, hyes⟩)⟩) _ (own_retN XL hx (z := (1 : Int32)) (t := .boolean) hret (by simp) (hb hby own_d13_107))
  exact J101 ((ps.length - 0) + (qs.length - 0) + 1) _ 0 0 0 X0 e0 (Nat.zero_le _) (Nat.zero_le _) (Or.inl ⟨rfl, own_no0 _ _⟩) (Nat.lt_succ_self _)
theorem own_d12_0 : decode method_2_code 0 = .ok (.iload_n 0, 1) := by decide +kernel
theorem own_d12_1 : decode method_2_code 1 = .ok (.ifCond .eq 16, 3) := by decide +kernel
theorem own_d12_17 : decode method_2_code 17 = .ok (.iconst 0, 1) := by decide +kernel
theorem own_d12_18 : decode method_2_code 18 = .ok (.ireturn, 1) := by decide +kernel
theorem own_d12_4 : decode method_2_code 4 = .ok (.iload_n 2, 1) := by decide +kernel
theorem own_d12_5 : decode method_2_code 5 = .ok (.ifCond .eq 12, 3) := by decide +kernel
theorem own_d12_8 : decode method_2_code 8 = .ok (.iload_n 1, 1) := by decide +kernel
theorem own_d12_9 : decode method_2_code 9 = .ok (.iload_n 3, 1) := by decide +kernel
theorem own_d12_10 : decode method_2_code 10 = .ok (.if_icmp .ne 7, 3) := by decide +kernel
theorem own_d12_13 : decode method_2_code 13 = .ok (.iconst 1, 1) := by decide +kernel
theorem own_d12_14 : decode method_2_code 14 = .ok (.goto 4, 3) := by decide +kernel
set_option maxHeartbeats 4000000 in
theorem own_ef_rm12 (m : MethodId) (x0 : Int32) (x1 : Int32) (x2 : Int32) (x3 : Int32) : entryFrame m #[(.int x0), (.int x1), (.int x2), (.int x3)] 4 = mkF m 0 #[.val (.int x0), .val (.int x1), .val (.int x2), .val (.int x3)] [] := by rfl
set_option maxRecDepth 65536 in
set_option maxHeartbeats 40000000 in
theorem rm12 (l : Launch) (Z : State) (a0 : Array Value) (hw : ∀ d ∈ tables_1, d.before a0 Z = true) (nk : Addr) (kk0 : ClassId) (O_nk : Sta Z Z.heap "com/example/hatoyama/hatoyama/IndexSet" "NO_KEYS" "[I" (.ref nk)) (V_nk : Arv Z Z.heap nk kk0 .int (0 : Int32) [] (.int (0 : Int32))) (nw : Addr) (kw0 : ClassId) (O_nw : Sta Z Z.heap "com/example/hatoyama/hatoyama/IndexSet" "NO_WORDS" "[J" (.ref nw)) (V_nw : Arv Z Z.heap nw kw0 .long (0 : Int32) [] (.long (0 : Int64))) (ws : List Jvm.Cond) (f : Int32) (x : Int32) (g : Int32) (y : Int32) (h0 : Heap) (n0 : Nat) (Z0 : n0 ≤ h0.size) :
    own_MetN l Z (⟨"com/example/hatoyama/hatoyama/IndexSetIntersectsPinLaw", "pair", "(ZIZI)Z"⟩ : MethodName) method_2_code 4 (some .boolean) ws ({ frames := 0, cells := 0, slots := 0, locals := 0 } : Room) #[(.int f), (.int x), (.int g), (.int y)] h0 (fun v h L => Fr n0 L ∧ h = h0 ∧ (((v = some (.int (1 : Int32))) ∧ (¬ f = (0 : Int32)) ∧ (¬ g = (0 : Int32)) ∧ (x = y)) ∨ ((v = some (.int (0 : Int32))) ∧ (¬ (¬ f = (0 : Int32) ∧ ¬ g = (0 : Int32) ∧ x = y))))) := by
  refine own_metN (plainFor_of_name own_pn3) ?_
  intro p e s m below meth c s₁ G hx hby hml hZ hown hnm hret X0 e0 go fin
  have N0 := Fr.nil n0
  refine go _ _ (fun _ k => castTop (own_ef_rm12 m f x g y) k) ?_
  show G (s₁.setTop (mkF m 0 #[.val (.int f), .val (.int x), .val (.int g), .val (.int y)] []))
  refine go _ _ (fun _ k => XS.iloadN X0.here hx rfl (hb hby own_d12_0) rfl k) ?_
  show G (s₁.setTop (mkF m 1 #[.val (.int f), .val (.int x), .val (.int g), .val (.int y)] [(.int f)]))
  by_cases hc1_101 : f = (0 : Int32)
  · refine go _ _ (fun _ k => XS.ifYes X0.here hx rfl (pc0 := 1) (pc' := 17) rfl (hb hby own_d12_1) rfl ((if0 _ _).trans (teq hc1_101).1) (by decide) (by decide) k) ?_
    show G (s₁.setTop (mkF m 17 #[.val (.int f), .val (.int x), .val (.int g), .val (.int y)] []))
    refine go _ _ (fun _ k => XS.iconst X0.here hx rfl (hb hby own_d12_17) k) ?_
    show G (s₁.setTop (mkF m 18 #[.val (.int f), .val (.int x), .val (.int g), .val (.int y)] [(.int (0 : Int32))]))
    refine fin s₁ _ _ _ (some (.int (0 : Int32))) X0 (fun q => nomatch q) (by decide) (by decide) (by rw [e0]; exact ⟨N0, rfl, (Or.inr ⟨rfl, (fun r => r.1 hc1_101)⟩)⟩) _ (own_retN X0 hx (z := (0 : Int32)) (t := .boolean) hret (by simp) (hb hby own_d12_18))
  · refine go _ _ (fun _ k => XS.ifNo X0.here hx rfl (hb hby own_d12_1) rfl ((if0 _ _).trans (feq hc1_101).1) k) ?_
    show G (s₁.setTop (mkF m 4 #[.val (.int f), .val (.int x), .val (.int g), .val (.int y)] []))
    refine go _ _ (fun _ k => XS.iloadN X0.here hx rfl (hb hby own_d12_4) rfl k) ?_
    show G (s₁.setTop (mkF m 5 #[.val (.int f), .val (.int x), .val (.int g), .val (.int y)] [(.int g)]))
    by_cases hc5_102 : g = (0 : Int32)
    · refine go _ _ (fun _ k => XS.ifYes X0.here hx rfl (pc0 := 5) (pc' := 17) rfl (hb hby own_d12_5) rfl ((if0 _ _).trans (teq hc5_102).1) (by decide) (by decide) k) ?_
      show G (s₁.setTop (mkF m 17 #[.val (.int f), .val (.int x), .val (.int g), .val (.int y)] []))
      refine go _ _ (fun _ k => XS.iconst X0.here hx rfl (hb hby own_d12_17) k) ?_
      show G (s₁.setTop (mkF m 18 #[.val (.int f), .val (.int x), .val (.int g), .val (.int y)] [(.int (0 : Int32))]))
      refine fin s₁ _ _ _ (some (.int (0 : Int32))) X0 (fun q => nomatch q) (by decide) (by decide) (by rw [e0]; exact ⟨N0, rfl, (Or.inr ⟨rfl, (fun r => r.2.1 hc5_102)⟩)⟩) _ (own_retN X0 hx (z := (0 : Int32)) (t := .boolean) hret (by simp) (hb hby own_d12_18))
    · refine go _ _ (fun _ k => XS.ifNo X0.here hx rfl (hb hby own_d12_5) rfl ((if0 _ _).trans (feq hc5_102).1) k) ?_
      show G (s₁.setTop (mkF m 8 #[.val (.int f), .val (.int x), .val (.int g), .val (.int y)] []))
      refine go _ _ (fun _ k => XS.iloadN X0.here hx rfl (hb hby own_d12_8) rfl (XS.iloadN X0.here hx rfl (hb hby own_d12_9) rfl k)) ?_
      show G (s₁.setTop (mkF m 10 #[.val (.int f), .val (.int x), .val (.int g), .val (.int y)] [(.int y), (.int x)]))
      by_cases hc10_103 : x = y
      · refine go _ _ (fun _ k => XS.icmpNo X0.here hx rfl (hb hby own_d12_10) rfl (teq hc10_103).2 k) ?_
        show G (s₁.setTop (mkF m 13 #[.val (.int f), .val (.int x), .val (.int g), .val (.int y)] []))
        refine go _ _ (fun _ k => XS.iconst X0.here hx rfl (hb hby own_d12_13) k) ?_
        show G (s₁.setTop (mkF m 14 #[.val (.int f), .val (.int x), .val (.int g), .val (.int y)] [(.int (1 : Int32))]))
        refine go _ _ (fun _ k => XS.goto X0.here hx rfl (pc0 := 14) (pc' := 18) rfl (hb hby own_d12_14) (by decide) (by decide) k) ?_
        show G (s₁.setTop (mkF m 18 #[.val (.int f), .val (.int x), .val (.int g), .val (.int y)] [(.int (1 : Int32))]))
        refine fin s₁ _ _ _ (some (.int (1 : Int32))) X0 (fun q => nomatch q) (by decide) (by decide) (by rw [e0]; exact ⟨N0, rfl, (Or.inl ⟨rfl, hc1_101, hc5_102, hc10_103⟩)⟩) _ (own_retN X0 hx (z := (1 : Int32)) (t := .boolean) hret (by simp) (hb hby own_d12_18))
      · refine go _ _ (fun _ k => XS.icmpYes X0.here hx rfl (pc0 := 10) (pc' := 17) rfl (hb hby own_d12_10) rfl (feq hc10_103).2 (by decide) (by decide) k) ?_
        show G (s₁.setTop (mkF m 17 #[.val (.int f), .val (.int x), .val (.int g), .val (.int y)] []))
        refine go _ _ (fun _ k => XS.iconst X0.here hx rfl (hb hby own_d12_17) k) ?_
        show G (s₁.setTop (mkF m 18 #[.val (.int f), .val (.int x), .val (.int g), .val (.int y)] [(.int (0 : Int32))]))
        refine fin s₁ _ _ _ (some (.int (0 : Int32))) X0 (fun q => nomatch q) (by decide) (by decide) (by rw [e0]; exact ⟨N0, rfl, (Or.inr ⟨rfl, (fun r => hc10_103 r.2.2)⟩)⟩) _ (own_retN X0 hx (z := (0 : Int32)) (t := .boolean) hret (by simp) (hb hby own_d12_18))
theorem own_pd6 : parseMethodDescriptor "()V" = some ⟨[], none⟩ := by decide +kernel
theorem own_pd7 : parseMethodDescriptor "(Lcom/example/hatoyama/hatoyama/IndexSet;IIII)V" = some ⟨[(.object "com/example/hatoyama/hatoyama/IndexSet"), .int, .int, .int, .int], none⟩ := by decide +kernel
theorem own_pd8 : parseMethodDescriptor "(Lcom/example/hatoyama/hatoyama/IndexSet;)Z" = some ⟨[(.object "com/example/hatoyama/hatoyama/IndexSet")], some .boolean⟩ := by decide +kernel
theorem own_pd9 : parseMethodDescriptor "(ZIZI)Z" = some ⟨[.boolean, .int, .boolean, .int], some .boolean⟩ := by decide +kernel
set_option maxHeartbeats 4000000 in
theorem own_ef_rmLaw (m : MethodId) (x0 : Int32) (x1 : Int32) (x2 : Int32) (x3 : Int32) (x4 : Int64) (x5 : Int32) : entryFrame m #[(.int x0), (.int x1), (.int x2), (.int x3), (.long x4), (.int x5)] maxLocals = mkF m 0 #[.val (.int x0), .val (.int x1), .val (.int x2), .val (.int x3), .val (.long x4), .second, .val (.int x5), .unset, .unset, .unset, .unset, .unset, .unset, .unset, .unset, .unset, .unset, .unset, .unset, .unset, .unset, .unset] [] := by simp [entryFrame, mkF, argsToLocals, Value.category, maxLocals]
set_option maxRecDepth 65536 in
set_option maxHeartbeats 40000000 in
theorem rmLaw (l : Launch) (Z : State) (a0 : Array Value) (hw : ∀ d ∈ tables_1, d.before a0 Z = true) (nk : Addr) (kk0 : ClassId) (O_nk : Sta Z Z.heap "com/example/hatoyama/hatoyama/IndexSet" "NO_KEYS" "[I" (.ref nk)) (V_nk : Arv Z Z.heap nk kk0 .int (0 : Int32) [] (.int (0 : Int32))) (nw : Addr) (kw0 : ClassId) (O_nw : Sta Z Z.heap "com/example/hatoyama/hatoyama/IndexSet" "NO_WORDS" "[J" (.ref nw)) (V_nw : Arv Z Z.heap nw kw0 .long (0 : Int32) [] (.long (0 : Int64))) (ws : List Jvm.Cond) (p0 : Int32) (p1 : Int32) (p2 : Int32) (p3 : Int32) (p4 : Int64) (p5 : Int32) (h0 : Heap) (n0 : Nat) (Z0 : n0 ≤ h0.size) (Xo : Old Z n0 h0) :
    own_MetN l Z x code maxLocals ret ws room_1 #[(.int p0), (.int p1), (.int p2), (.int p3), (.long p4), (.int p5)] h0 (fun v h L => Fr n0 L ∧ Keep h0 h [] ∧ (((v = some (.int (1 : Int32)))))) := by
  refine own_metN (plainFor_of_name own_pn3) ?_
  intro p e s m below meth c s₁ G hx hby hml hZ hown hnm hret X0 e0 go fin
  have N0 := Fr.nil n0
  refine go _ _ (fun _ k => castTop (own_ef_rmLaw m p0 p1 p2 p3 p4 p5) k) ?_
  show G (s₁.setTop (mkF m 0 #[.val (.int p0), .val (.int p1), .val (.int p2), .val (.int p3), .val (.long p4), .second, .val (.int p5), .unset, .unset, .unset, .unset, .unset, .unset, .unset, .unset, .unset, .unset, .unset, .unset, .unset, .unset, .unset] []))
  refine go _ _ (fun _ k => XS.lload X0.here hx rfl (hb hby at_0) rfl (XS.l2i X0.here hx rfl (hb hby at_2) rfl (XS.istore X0.here hx rfl (hb hby at_3) rfl (l' := #[.val (.int p0), .val (.int p1), .val (.int p2), .val (.int p3), .val (.long p4), .second, .val (.int p5), .val (.int (p4.toInt32)), .unset, .unset, .unset, .unset, .unset, .unset, .unset, .unset, .unset, .unset, .unset, .unset, .unset, .unset]) rfl (XS.lload X0.here hx rfl (hb hby at_5) rfl (XS.bipush X0.here hx rfl (hb hby at_7) (XS.lushr X0.here hx rfl (hb hby at_9) rfl k)))))) ?_
  show G (s₁.setTop (mkF m 10 #[.val (.int p0), .val (.int p1), .val (.int p2), .val (.int p3), .val (.long p4), .second, .val (.int p5), .val (.int (p4.toInt32)), .unset, .unset, .unset, .unset, .unset, .unset, .unset, .unset, .unset, .unset, .unset, .unset, .unset, .unset] [(.long ((p4.toUInt64 >>> ((32 : Int32) &&& 0x3f).toInt64.toUInt64).toInt64))]))
  refine go _ _ (fun _ k => XS.l2i X0.here hx rfl (hb hby at_10) rfl (XS.istore X0.here hx rfl (hb hby at_11) rfl (l' := #[.val (.int p0), .val (.int p1), .val (.int p2), .val (.int p3), .val (.long p4), .second, .val (.int p5), .val (.int (p4.toInt32)), .val (.int (((p4.toUInt64 >>> ((32 : Int32) &&& 0x3f).toInt64.toUInt64).toInt64).toInt32)), .unset, .unset, .unset, .unset, .unset, .unset, .unset, .unset, .unset, .unset, .unset, .unset, .unset]) rfl (XS.iload X0.here hx rfl (hb hby at_13) rfl (XS.iconst X0.here hx rfl (hb hby at_15) (XS.iand X0.here hx rfl (hb hby at_16) rfl (XS.istore X0.here hx rfl (hb hby at_17) rfl (l' := #[.val (.int p0), .val (.int p1), .val (.int p2), .val (.int p3), .val (.long p4), .second, .val (.int p5), .val (.int (p4.toInt32)), .val (.int (((p4.toUInt64 >>> ((32 : Int32) &&& 0x3f).toInt64.toUInt64).toInt64).toInt32)), .val (.int (p5 &&& (3 : Int32))), .unset, .unset, .unset, .unset, .unset, .unset, .unset, .unset, .unset, .unset, .unset, .unset]) rfl k)))))) ?_
  show G (s₁.setTop (mkF m 19 #[.val (.int p0), .val (.int p1), .val (.int p2), .val (.int p3), .val (.long p4), .second, .val (.int p5), .val (.int (p4.toInt32)), .val (.int (((p4.toUInt64 >>> ((32 : Int32) &&& 0x3f).toInt64.toUInt64).toInt64).toInt32)), .val (.int (p5 &&& (3 : Int32))), .unset, .unset, .unset, .unset, .unset, .unset, .unset, .unset, .unset, .unset, .unset, .unset] []))
  refine go _ _ (fun _ k => XS.iload X0.here hx rfl (hb hby at_19) rfl (XS.iconst X0.here hx rfl (hb hby at_21) (XS.iushr X0.here hx rfl (hb hby at_22) rfl (XS.iconst X0.here hx rfl (hb hby at_23) (XS.iand X0.here hx rfl (hb hby at_24) rfl (XS.istore X0.here hx rfl (hb hby at_25) rfl (l' := #[.val (.int p0), .val (.int p1), .val (.int p2), .val (.int p3), .val (.long p4), .second, .val (.int p5), .val (.int (p4.toInt32)), .val (.int (((p4.toUInt64 >>> ((32 : Int32) &&& 0x3f).toInt64.toUInt64).toInt64).toInt32)), .val (.int (p5 &&& (3 : Int32))), .val (.int (((p5.toUInt32 >>> ((2 : Int32) &&& 31).toUInt32).toInt32) &&& (3 : Int32))), .unset, .unset, .unset, .unset, .unset, .unset, .unset, .unset, .unset, .unset, .unset]) rfl k)))))) ?_
  show G (s₁.setTop (mkF m 27 #[.val (.int p0), .val (.int p1), .val (.int p2), .val (.int p3), .val (.long p4), .second, .val (.int p5), .val (.int (p4.toInt32)), .val (.int (((p4.toUInt64 >>> ((32 : Int32) &&& 0x3f).toInt64.toUInt64).toInt64).toInt32)), .val (.int (p5 &&& (3 : Int32))), .val (.int (((p5.toUInt32 >>> ((2 : Int32) &&& 31).toUInt32).toInt32) &&& (3 : Int32))), .unset, .unset, .unset, .unset, .unset, .unset, .unset, .unset, .unset, .unset, .unset] []))
  obtain ⟨T101, h101, X101, e101, E101, A101, D101, -, st101⟩ := newO X0 hx hZ hown (ow hw 0 rfl) (ow hw 1 rfl) (ow hw 2 rfl) e0 (g := (mkF m 27 #[.val (.int p0), .val (.int p1), .val (.int p2), .val (.int p3), .val (.long p4), .second, .val (.int p5), .val (.int (p4.toInt32)), .val (.int (((p4.toUInt64 >>> ((32 : Int32) &&& 0x3f).toInt64.toUInt64).toInt64).toInt32)), .val (.int (p5 &&& (3 : Int32))), .val (.int (((p5.toUInt32 >>> ((2 : Int32) &&& 31).toUInt32).toInt32) &&& (3 : Int32))), .unset, .unset, .unset, .unset, .unset, .unset, .unset, .unset, .unset, .unset, .unset] [])) rfl (hb hby at_27) (by decide) (by decide)
  obtain ⟨b101, g101⟩ : ∃ z, z = h0.size := ⟨_, rfl⟩
  rw [← g101] at A101 D101 st101
  refine go _ _ (st101) ?_
  show G (T101.setTop (mkF m 30 #[.val (.int p0), .val (.int p1), .val (.int p2), .val (.int p3), .val (.long p4), .second, .val (.int p5), .val (.int (p4.toInt32)), .val (.int (((p4.toUInt64 >>> ((32 : Int32) &&& 0x3f).toInt64.toUInt64).toInt64).toInt32)), .val (.int (p5 &&& (3 : Int32))), .val (.int (((p5.toUInt32 >>> ((2 : Int32) &&& 31).toUInt32).toInt32) &&& (3 : Int32))), .unset, .unset, .unset, .unset, .unset, .unset, .unset, .unset, .unset, .unset, .unset] [(.ref b101)]))
  refine go _ _ (fun _ k => XS.dup X101.here hx rfl (hb hby at_30) rfl rfl k) ?_
  show G (T101.setTop (mkF m 31 #[.val (.int p0), .val (.int p1), .val (.int p2), .val (.int p3), .val (.long p4), .second, .val (.int p5), .val (.int (p4.toInt32)), .val (.int (((p4.toUInt64 >>> ((32 : Int32) &&& 0x3f).toInt64.toUInt64).toInt64).toInt32)), .val (.int (p5 &&& (3 : Int32))), .val (.int (((p5.toUInt32 >>> ((2 : Int32) &&& 31).toUInt32).toInt32) &&& (3 : Int32))), .unset, .unset, .unset, .unset, .unset, .unset, .unset, .unset, .unset, .unset, .unset] [(.ref b101), (.ref b101)]))
  have K103 : Keep h0 h101 [] := (Keep.refl h0 []).ext E101
  have F104 : Old Z n0 h101 := (Xo.keep K103 all0)
  have Z105 : h0.size ≤ h101.size := E101.1
  obtain ⟨rv102, T102, L102, X102, q102, st102⟩ := own_sp X101 hx hZ (y := (⟨"com/example/hatoyama/hatoyama/IndexSet", "<init>", "()V"⟩ : MethodName)) rfl hown (ow hw 3 rfl) (ow hw 4 rfl) (ow hw 5 rfl) (by decide) (own_bkN (W := 1) (rm0 l Z a0 hw nk kk0 O_nk V_nk nw kw0 O_nw V_nw [] b101 h101 n0 (Nat.le_trans Z0 Z105) F104 A101 (D101 (Or.inl (ow hw 12 rfl)) (ty := (.array .int)) (by decide)) (D101 (Or.inl (ow hw 16 rfl)) (ty := (.array .long)) (by decide)) (D101 (Or.inl (ow hw 27 rfl)) (ty := .int) (by decide)) (Nat.le_trans Z0 (Nat.le_of_eq g101.symm))) hZ (ow hw 5 rfl) (ow hw 2 rfl) (by decide) (by decide)) e101 (g := (mkF m 31 #[.val (.int p0), .val (.int p1), .val (.int p2), .val (.int p3), .val (.long p4), .second, .val (.int p5), .val (.int (p4.toInt32)), .val (.int (((p4.toUInt64 >>> ((32 : Int32) &&& 0x3f).toInt64.toUInt64).toInt64).toInt32)), .val (.int (p5 &&& (3 : Int32))), .val (.int (((p5.toUInt32 >>> ((2 : Int32) &&& 31).toUInt32).toInt32) &&& (3 : Int32))), .unset, .unset, .unset, .unset, .unset, .unset, .unset, .unset, .unset, .unset, .unset] [(.ref b101), (.ref b101)])) rfl (by rw [hml]; rfl) (a := b101) (argsL := []) (rest := [(.ref b101)]) rfl (lenOf own_pd6 rfl) rfl (by show 2 * 0 + _ ≤ _; exact Nat.le_of_eq rfl) (hb hby at_31) (by decide) (by decide)
  obtain ⟨Nq102, Kp102, ⟨rfl, f106, f107, f108, f109⟩⟩ := q102
  have N102 := Fr.app N0 Nq102
  refine go _ _ (st102) ?_
  show G (T102.setTop (mkF m 34 #[.val (.int p0), .val (.int p1), .val (.int p2), .val (.int p3), .val (.long p4), .second, .val (.int p5), .val (.int (p4.toInt32)), .val (.int (((p4.toUInt64 >>> ((32 : Int32) &&& 0x3f).toInt64.toUInt64).toInt64).toInt32)), .val (.int (p5 &&& (3 : Int32))), .val (.int (((p5.toUInt32 >>> ((2 : Int32) &&& 31).toUInt32).toInt32) &&& (3 : Int32))), .unset, .unset, .unset, .unset, .unset, .unset, .unset, .unset, .unset, .unset, .unset] [(.ref b101)]))
  refine go _ _ (fun _ k => XS.astore X102.here hx rfl (hb hby at_34) rfl rfl (l' := #[.val (.int p0), .val (.int p1), .val (.int p2), .val (.int p3), .val (.long p4), .second, .val (.int p5), .val (.int (p4.toInt32)), .val (.int (((p4.toUInt64 >>> ((32 : Int32) &&& 0x3f).toInt64.toUInt64).toInt64).toInt32)), .val (.int (p5 &&& (3 : Int32))), .val (.int (((p5.toUInt32 >>> ((2 : Int32) &&& 31).toUInt32).toInt32) &&& (3 : Int32))), .val (.ref b101), .unset, .unset, .unset, .unset, .unset, .unset, .unset, .unset, .unset, .unset]) rfl k) ?_
  show G (T102.setTop (mkF m 36 #[.val (.int p0), .val (.int p1), .val (.int p2), .val (.int p3), .val (.long p4), .second, .val (.int p5), .val (.int (p4.toInt32)), .val (.int (((p4.toUInt64 >>> ((32 : Int32) &&& 0x3f).toInt64.toUInt64).toInt64).toInt32)), .val (.int (p5 &&& (3 : Int32))), .val (.int (((p5.toUInt32 >>> ((2 : Int32) &&& 31).toUInt32).toInt32) &&& (3 : Int32))), .val (.ref b101), .unset, .unset, .unset, .unset, .unset, .unset, .unset, .unset, .unset, .unset] []))
  obtain ⟨T110, h110, X110, e110, E110, A110, D110, -, st110⟩ := newO X102 hx hZ hown (ow hw 0 rfl) (ow hw 1 rfl) (ow hw 2 rfl) rfl (g := (mkF m 36 #[.val (.int p0), .val (.int p1), .val (.int p2), .val (.int p3), .val (.long p4), .second, .val (.int p5), .val (.int (p4.toInt32)), .val (.int (((p4.toUInt64 >>> ((32 : Int32) &&& 0x3f).toInt64.toUInt64).toInt64).toInt32)), .val (.int (p5 &&& (3 : Int32))), .val (.int (((p5.toUInt32 >>> ((2 : Int32) &&& 31).toUInt32).toInt32) &&& (3 : Int32))), .val (.ref b101), .unset, .unset, .unset, .unset, .unset, .unset, .unset, .unset, .unset, .unset] [])) rfl (hb hby at_36) (by decide) (by decide)
  obtain ⟨b110, g110⟩ : ∃ z, z = T102.heap.size := ⟨_, rfl⟩
  rw [← g110] at A110 D110 st110
  refine go _ _ (st110) ?_
  show G (T110.setTop (mkF m 39 #[.val (.int p0), .val (.int p1), .val (.int p2), .val (.int p3), .val (.long p4), .second, .val (.int p5), .val (.int (p4.toInt32)), .val (.int (((p4.toUInt64 >>> ((32 : Int32) &&& 0x3f).toInt64.toUInt64).toInt64).toInt32)), .val (.int (p5 &&& (3 : Int32))), .val (.int (((p5.toUInt32 >>> ((2 : Int32) &&& 31).toUInt32).toInt32) &&& (3 : Int32))), .val (.ref b101), .unset, .unset, .unset, .unset, .unset, .unset, .unset, .unset, .unset, .unset] [(.ref b110)]))
  refine go _ _ (fun _ k => XS.dup X110.here hx rfl (hb hby at_39) rfl rfl k) ?_
  show G (T110.setTop (mkF m 40 #[.val (.int p0), .val (.int p1), .val (.int p2), .val (.int p3), .val (.long p4), .second, .val (.int p5), .val (.int (p4.toInt32)), .val (.int (((p4.toUInt64 >>> ((32 : Int32) &&& 0x3f).toInt64.toUInt64).toInt64).toInt32)), .val (.int (p5 &&& (3 : Int32))), .val (.int (((p5.toUInt32 >>> ((2 : Int32) &&& 31).toUInt32).toInt32) &&& (3 : Int32))), .val (.ref b101), .unset, .unset, .unset, .unset, .unset, .unset, .unset, .unset, .unset, .unset] [(.ref b110), (.ref b110)]))
  have K112 : Keep h101 T102.heap [b101] := (Keep.refl h101 [b101]).trans Kp102 (allS (Or.inl (List.mem_of_getElem? (i := 0) rfl)) all0)
  have K113 : Keep h101 h110 [b101] := K112.ext E110
  have F114 : Old Z n0 h110 := (F104.keep K113 (allS (Nat.le_trans Z0 (Nat.le_of_eq g101.symm)) all0))
  have Z115 : h0.size ≤ T102.heap.size := Nat.le_trans Z105 Kp102.1
  have Z116 : h0.size ≤ h110.size := Nat.le_trans Z115 E110.1
  obtain ⟨rv111, T111, L111, X111, q111, st111⟩ := own_sp X110 hx hZ (y := (⟨"com/example/hatoyama/hatoyama/IndexSet", "<init>", "()V"⟩ : MethodName)) rfl hown (ow hw 3 rfl) (ow hw 4 rfl) (ow hw 5 rfl) (by decide) (own_bkN (W := 1) (rm0 l Z a0 hw nk kk0 O_nk V_nk nw kw0 O_nw V_nw [] b110 h110 n0 (Nat.le_trans Z0 Z116) F114 A110 (D110 (Or.inl (ow hw 12 rfl)) (ty := (.array .int)) (by decide)) (D110 (Or.inl (ow hw 16 rfl)) (ty := (.array .long)) (by decide)) (D110 (Or.inl (ow hw 27 rfl)) (ty := .int) (by decide)) (Nat.le_trans (Nat.le_trans Z0 Z115) (Nat.le_of_eq g110.symm))) hZ (ow hw 5 rfl) (ow hw 2 rfl) (by decide) (by decide)) e110 (g := (mkF m 40 #[.val (.int p0), .val (.int p1), .val (.int p2), .val (.int p3), .val (.long p4), .second, .val (.int p5), .val (.int (p4.toInt32)), .val (.int (((p4.toUInt64 >>> ((32 : Int32) &&& 0x3f).toInt64.toUInt64).toInt64).toInt32)), .val (.int (p5 &&& (3 : Int32))), .val (.int (((p5.toUInt32 >>> ((2 : Int32) &&& 31).toUInt32).toInt32) &&& (3 : Int32))), .val (.ref b101), .unset, .unset, .unset, .unset, .unset, .unset, .unset, .unset, .unset, .unset] [(.ref b110), (.ref b110)])) rfl (by rw [hml]; rfl) (a := b110) (argsL := []) (rest := [(.ref b110)]) rfl (lenOf own_pd6 rfl) rfl (by show 2 * 0 + _ ≤ _; exact Nat.le_of_eq rfl) (hb hby at_40) (by decide) (by decide)
  obtain ⟨Nq111, Kp111, ⟨rfl, f117, f118, f119, f120⟩⟩ := q111
  have N111 := Fr.app N102 Nq111
  refine go _ _ (st111) ?_
  show G (T111.setTop (mkF m 43 #[.val (.int p0), .val (.int p1), .val (.int p2), .val (.int p3), .val (.long p4), .second, .val (.int p5), .val (.int (p4.toInt32)), .val (.int (((p4.toUInt64 >>> ((32 : Int32) &&& 0x3f).toInt64.toUInt64).toInt64).toInt32)), .val (.int (p5 &&& (3 : Int32))), .val (.int (((p5.toUInt32 >>> ((2 : Int32) &&& 31).toUInt32).toInt32) &&& (3 : Int32))), .val (.ref b101), .unset, .unset, .unset, .unset, .unset, .unset, .unset, .unset, .unset, .unset] [(.ref b110)]))
  refine go _ _ (fun _ k => XS.astore X111.here hx rfl (hb hby at_43) rfl rfl (l' := #[.val (.int p0), .val (.int p1), .val (.int p2), .val (.int p3), .val (.long p4), .second, .val (.int p5), .val (.int (p4.toInt32)), .val (.int (((p4.toUInt64 >>> ((32 : Int32) &&& 0x3f).toInt64.toUInt64).toInt64).toInt32)), .val (.int (p5 &&& (3 : Int32))), .val (.int (((p5.toUInt32 >>> ((2 : Int32) &&& 31).toUInt32).toInt32) &&& (3 : Int32))), .val (.ref b101), .val (.ref b110), .unset, .unset, .unset, .unset, .unset, .unset, .unset, .unset, .unset]) rfl (XS.aload X111.here hx rfl (hb hby at_45) rfl rfl (XS.iload X111.here hx rfl (hb hby at_47) rfl (XS.iloadN X111.here hx rfl (hb hby at_49) rfl (XS.iloadN X111.here hx rfl (hb hby at_50) rfl (XS.iload X111.here hx rfl (hb hby at_51) rfl k)))))) ?_
  show G (T111.setTop (mkF m 53 #[.val (.int p0), .val (.int p1), .val (.int p2), .val (.int p3), .val (.long p4), .second, .val (.int p5), .val (.int (p4.toInt32)), .val (.int (((p4.toUInt64 >>> ((32 : Int32) &&& 0x3f).toInt64.toUInt64).toInt64).toInt32)), .val (.int (p5 &&& (3 : Int32))), .val (.int (((p5.toUInt32 >>> ((2 : Int32) &&& 31).toUInt32).toInt32) &&& (3 : Int32))), .val (.ref b101), .val (.ref b110), .unset, .unset, .unset, .unset, .unset, .unset, .unset, .unset, .unset] [(.int (p4.toInt32)), (.int p1), (.int p0), (.int (p5 &&& (3 : Int32))), (.ref b101)]))
  have K122 : Keep h110 T111.heap [b110] := (Keep.refl h110 [b110]).trans Kp111 (allS (Or.inl (List.mem_of_getElem? (i := 0) rfl)) all0)
  have F123 : Old Z n0 T111.heap := (F114.keep K122 (allS (Nat.le_trans (Nat.le_trans Z0 Z115) (Nat.le_of_eq g110.symm)) all0))
  have K124 : Keep T102.heap h110 [] := (Keep.refl T102.heap []).ext E110
  have K125 : Keep T102.heap T111.heap [] := K124.trans Kp111 (allS (Or.inr (Nat.le_of_eq g110.symm)) all0)
  have F126 : Exa Z T111.heap b101 "com/example/hatoyama/hatoyama/IndexSet" := (f106.keep K125)
  have F127 : Fld Z T111.heap b101 "com/example/hatoyama/hatoyama/IndexSet" "keys" "[I" (.ref nk) := (f107.keep K125 nin0)
  have F128 : Fld Z T111.heap b101 "com/example/hatoyama/hatoyama/IndexSet" "words" "[J" (.ref nw) := (f108.keep K125 nin0)
  have F129 : Fld Z T111.heap b101 "com/example/hatoyama/hatoyama/IndexSet" "used" "I" (.int (0 : Int32)) := (f109.keep K125 nin0)
  have Z130 : h0.size ≤ T111.heap.size := Nat.le_trans Z116 Kp111.1
  obtain ⟨rv121, T121, L121, X121, q121, st121⟩ := own_st X111 hx hZ (y := (⟨"com/example/hatoyama/hatoyama/IndexSetIntersectsPinLaw", "fill", "(Lcom/example/hatoyama/hatoyama/IndexSet;IIII)V"⟩ : MethodName)) hown (ow hw 17 rfl) (ow hw 18 rfl) (ow hw 19 rfl) (ow hw 20 rfl) (by decide) (own_bkN (W := 0) (rm2 l Z a0 hw nk kk0 O_nk V_nk nw kw0 O_nw V_nw [] b101 (p5 &&& (3 : Int32)) p0 p1 (p4.toInt32) T111.heap n0 (Nat.le_trans Z0 Z130) F123 F126 F127 F128 F129 (Nat.le_trans Z0 (Nat.le_of_eq g101.symm))) hZ (ow hw 20 rfl) (ow hw 19 rfl) (by decide) (by decide)) rfl (g := (mkF m 53 #[.val (.int p0), .val (.int p1), .val (.int p2), .val (.int p3), .val (.long p4), .second, .val (.int p5), .val (.int (p4.toInt32)), .val (.int (((p4.toUInt64 >>> ((32 : Int32) &&& 0x3f).toInt64.toUInt64).toInt64).toInt32)), .val (.int (p5 &&& (3 : Int32))), .val (.int (((p5.toUInt32 >>> ((2 : Int32) &&& 31).toUInt32).toInt32) &&& (3 : Int32))), .val (.ref b101), .val (.ref b110), .unset, .unset, .unset, .unset, .unset, .unset, .unset, .unset, .unset] [(.int (p4.toInt32)), (.int p1), (.int p0), (.int (p5 &&& (3 : Int32))), (.ref b101)])) rfl (by rw [hml]; rfl) (argsL := [(.ref b101), (.int (p5 &&& (3 : Int32))), (.int p0), (.int p1), (.int (p4.toInt32))]) (rest := []) rfl (lenOf own_pd7 rfl) rfl (by show 2 * 0 + _ ≤ _; exact Nat.le_of_eq rfl) (hb hby at_53) (by decide) (by decide)
  obtain ⟨Nq121, Kp121, ⟨ps_131, rfl, p132, p133, f134, f135⟩⟩ := q121
  have N121 := Fr.app N111 Nq121
  refine go _ _ (st121) ?_
  show G (T121.setTop (mkF m 56 #[.val (.int p0), .val (.int p1), .val (.int p2), .val (.int p3), .val (.long p4), .second, .val (.int p5), .val (.int (p4.toInt32)), .val (.int (((p4.toUInt64 >>> ((32 : Int32) &&& 0x3f).toInt64.toUInt64).toInt64).toInt32)), .val (.int (p5 &&& (3 : Int32))), .val (.int (((p5.toUInt32 >>> ((2 : Int32) &&& 31).toUInt32).toInt32) &&& (3 : Int32))), .val (.ref b101), .val (.ref b110), .unset, .unset, .unset, .unset, .unset, .unset, .unset, .unset, .unset] []))
  refine go _ _ (fun _ k => XS.aload X121.here hx rfl (hb hby at_56) rfl rfl (XS.iload X121.here hx rfl (hb hby at_58) rfl (XS.iloadN X121.here hx rfl (hb hby at_60) rfl (XS.iloadN X121.here hx rfl (hb hby at_61) rfl (XS.iload X121.here hx rfl (hb hby at_62) rfl k))))) ?_
  show G (T121.setTop (mkF m 64 #[.val (.int p0), .val (.int p1), .val (.int p2), .val (.int p3), .val (.long p4), .second, .val (.int p5), .val (.int (p4.toInt32)), .val (.int (((p4.toUInt64 >>> ((32 : Int32) &&& 0x3f).toInt64.toUInt64).toInt64).toInt32)), .val (.int (p5 &&& (3 : Int32))), .val (.int (((p5.toUInt32 >>> ((2 : Int32) &&& 31).toUInt32).toInt32) &&& (3 : Int32))), .val (.ref b101), .val (.ref b110), .unset, .unset, .unset, .unset, .unset, .unset, .unset, .unset, .unset] [(.int (((p4.toUInt64 >>> ((32 : Int32) &&& 0x3f).toInt64.toUInt64).toInt64).toInt32)), (.int p3), (.int p2), (.int (((p5.toUInt32 >>> ((2 : Int32) &&& 31).toUInt32).toInt32) &&& (3 : Int32))), (.ref b110)]))
  have K137 : Keep T111.heap T121.heap [b101] := (Keep.refl T111.heap [b101]).trans Kp121 (allS (Or.inl (List.mem_of_getElem? (i := 0) rfl)) all0)
  have F138 : Old Z n0 T121.heap := (F123.keep K137 (allS (Nat.le_trans Z0 (Nat.le_of_eq g101.symm)) all0))
  have F139 : Exa Z T121.heap b110 "com/example/hatoyama/hatoyama/IndexSet" := (f117.keep K137)
  have F140 : Fld Z T121.heap b110 "com/example/hatoyama/hatoyama/IndexSet" "keys" "[I" (.ref nk) := (f118.keep K137 (ninS (Ne.symm (Nat.ne_of_lt (Nat.lt_of_lt_of_le f106.lt (Nat.le_of_eq g110.symm)))) nin0))
  have F141 : Fld Z T121.heap b110 "com/example/hatoyama/hatoyama/IndexSet" "words" "[J" (.ref nw) := (f119.keep K137 (ninS (Ne.symm (Nat.ne_of_lt (Nat.lt_of_lt_of_le f106.lt (Nat.le_of_eq g110.symm)))) nin0))
  have F142 : Fld Z T121.heap b110 "com/example/hatoyama/hatoyama/IndexSet" "used" "I" (.int (0 : Int32)) := (f120.keep K137 (ninS (Ne.symm (Nat.ne_of_lt (Nat.lt_of_lt_of_le f106.lt (Nat.le_of_eq g110.symm)))) nin0))
  have Z143 : h0.size ≤ T121.heap.size := Nat.le_trans Z130 Kp121.1
  obtain ⟨rv136, T136, L136, X136, q136, st136⟩ := own_st X121 hx hZ (y := (⟨"com/example/hatoyama/hatoyama/IndexSetIntersectsPinLaw", "fill", "(Lcom/example/hatoyama/hatoyama/IndexSet;IIII)V"⟩ : MethodName)) hown (ow hw 17 rfl) (ow hw 18 rfl) (ow hw 19 rfl) (ow hw 20 rfl) (by decide) (own_bkN (W := 0) (rm2 l Z a0 hw nk kk0 O_nk V_nk nw kw0 O_nw V_nw [] b110 (((p5.toUInt32 >>> ((2 : Int32) &&& 31).toUInt32).toInt32) &&& (3 : Int32)) p2 p3 (((p4.toUInt64 >>> ((32 : Int32) &&& 0x3f).toInt64.toUInt64).toInt64).toInt32) T121.heap n0 (Nat.le_trans Z0 Z143) F138 F139 F140 F141 F142 (Nat.le_trans (Nat.le_trans Z0 Z115) (Nat.le_of_eq g110.symm))) hZ (ow hw 20 rfl) (ow hw 19 rfl) (by decide) (by decide)) rfl (g := (mkF m 64 #[.val (.int p0), .val (.int p1), .val (.int p2), .val (.int p3), .val (.long p4), .second, .val (.int p5), .val (.int (p4.toInt32)), .val (.int (((p4.toUInt64 >>> ((32 : Int32) &&& 0x3f).toInt64.toUInt64).toInt64).toInt32)), .val (.int (p5 &&& (3 : Int32))), .val (.int (((p5.toUInt32 >>> ((2 : Int32) &&& 31).toUInt32).toInt32) &&& (3 : Int32))), .val (.ref b101), .val (.ref b110), .unset, .unset, .unset, .unset, .unset, .unset, .unset, .unset, .unset] [(.int (((p4.toUInt64 >>> ((32 : Int32) &&& 0x3f).toInt64.toUInt64).toInt64).toInt32)), (.int p3), (.int p2), (.int (((p5.toUInt32 >>> ((2 : Int32) &&& 31).toUInt32).toInt32) &&& (3 : Int32))), (.ref b110)])) rfl (by rw [hml]; rfl) (argsL := [(.ref b110), (.int (((p5.toUInt32 >>> ((2 : Int32) &&& 31).toUInt32).toInt32) &&& (3 : Int32))), (.int p2), (.int p3), (.int (((p4.toUInt64 >>> ((32 : Int32) &&& 0x3f).toInt64.toUInt64).toInt64).toInt32))]) (rest := []) rfl (lenOf own_pd7 rfl) rfl (by show 2 * 0 + _ ≤ _; exact Nat.le_of_eq rfl) (hb hby at_64) (by decide) (by decide)
  obtain ⟨Nq136, Kp136, ⟨ps_144, rfl, p145, p146, f147, f148⟩⟩ := q136
  have N136 := Fr.app N121 Nq136
  refine go _ _ (st136) ?_
  show G (T136.setTop (mkF m 67 #[.val (.int p0), .val (.int p1), .val (.int p2), .val (.int p3), .val (.long p4), .second, .val (.int p5), .val (.int (p4.toInt32)), .val (.int (((p4.toUInt64 >>> ((32 : Int32) &&& 0x3f).toInt64.toUInt64).toInt64).toInt32)), .val (.int (p5 &&& (3 : Int32))), .val (.int (((p5.toUInt32 >>> ((2 : Int32) &&& 31).toUInt32).toInt32) &&& (3 : Int32))), .val (.ref b101), .val (.ref b110), .unset, .unset, .unset, .unset, .unset, .unset, .unset, .unset, .unset] []))
  refine go _ _ (fun _ k => XS.iload X136.here hx rfl (hb hby at_67) rfl k) ?_
  show G (T136.setTop (mkF m 69 #[.val (.int p0), .val (.int p1), .val (.int p2), .val (.int p3), .val (.long p4), .second, .val (.int p5), .val (.int (p4.toInt32)), .val (.int (((p4.toUInt64 >>> ((32 : Int32) &&& 0x3f).toInt64.toUInt64).toInt64).toInt32)), .val (.int (p5 &&& (3 : Int32))), .val (.int (((p5.toUInt32 >>> ((2 : Int32) &&& 31).toUInt32).toInt32) &&& (3 : Int32))), .val (.ref b101), .val (.ref b110), .unset, .unset, .unset, .unset, .unset, .unset, .unset, .unset, .unset] [(.int (p5 &&& (3 : Int32)))]))
  have J149 : ∀ (T149 : State) (L149 : List Loc) (X149 : Stand p l e room_1 s m #[(.int p0), (.int p1), (.int p2), (.int p3), (.long p4), (.int p5)] below meth c T149 L149 14 30) (e149 : T149.heap = T136.heap) (N149 : Fr n0 L149) (f_149 : Int32) (pj149_f0 : own_is f_149 ((0 : Int32) < (p5 &&& (3 : Int32)))), G (T149.setTop (mkF m 77 #[.val (.int p0), .val (.int p1), .val (.int p2), .val (.int p3), .val (.long p4), .second, .val (.int p5), .val (.int (p4.toInt32)), .val (.int (((p4.toUInt64 >>> ((32 : Int32) &&& 0x3f).toInt64.toUInt64).toInt64).toInt32)), .val (.int (p5 &&& (3 : Int32))), .val (.int (((p5.toUInt32 >>> ((2 : Int32) &&& 31).toUInt32).toInt32) &&& (3 : Int32))), .val (.ref b101), .val (.ref b110), .unset, .unset, .unset, .unset, .unset, .unset, .unset, .unset, .unset] [(.int f_149)])) := by
    intro T149 L149 X149 e149 N149 f_149 pj149_f0
    show G (T149.setTop (mkF m 77 #[.val (.int p0), .val (.int p1), .val (.int p2), .val (.int p3), .val (.long p4), .second, .val (.int p5), .val (.int (p4.toInt32)), .val (.int (((p4.toUInt64 >>> ((32 : Int32) &&& 0x3f).toInt64.toUInt64).toInt64).toInt32)), .val (.int (p5 &&& (3 : Int32))), .val (.int (((p5.toUInt32 >>> ((2 : Int32) &&& 31).toUInt32).toInt32) &&& (3 : Int32))), .val (.ref b101), .val (.ref b110), .unset, .unset, .unset, .unset, .unset, .unset, .unset, .unset, .unset] [(.int f_149)]))
    refine go _ _ (fun _ k => XS.istore X149.here hx rfl (hb hby at_77) rfl (l' := #[.val (.int p0), .val (.int p1), .val (.int p2), .val (.int p3), .val (.long p4), .second, .val (.int p5), .val (.int (p4.toInt32)), .val (.int (((p4.toUInt64 >>> ((32 : Int32) &&& 0x3f).toInt64.toUInt64).toInt64).toInt32)), .val (.int (p5 &&& (3 : Int32))), .val (.int (((p5.toUInt32 >>> ((2 : Int32) &&& 31).toUInt32).toInt32) &&& (3 : Int32))), .val (.ref b101), .val (.ref b110), .val (.int f_149), .unset, .unset, .unset, .unset, .unset, .unset, .unset, .unset]) rfl (XS.iload X149.here hx rfl (hb hby at_79) rfl (XS.iconst X149.here hx rfl (hb hby at_81) k))) ?_
    show G (T149.setTop (mkF m 82 #[.val (.int p0), .val (.int p1), .val (.int p2), .val (.int p3), .val (.long p4), .second, .val (.int p5), .val (.int (p4.toInt32)), .val (.int (((p4.toUInt64 >>> ((32 : Int32) &&& 0x3f).toInt64.toUInt64).toInt64).toInt32)), .val (.int (p5 &&& (3 : Int32))), .val (.int (((p5.toUInt32 >>> ((2 : Int32) &&& 31).toUInt32).toInt32) &&& (3 : Int32))), .val (.ref b101), .val (.ref b110), .val (.int f_149), .unset, .unset, .unset, .unset, .unset, .unset, .unset, .unset] [(.int (1 : Int32)), (.int (p5 &&& (3 : Int32)))]))
    have J150 : ∀ (T150 : State) (L150 : List Loc) (X150 : Stand p l e room_1 s m #[(.int p0), (.int p1), (.int p2), (.int p3), (.long p4), (.int p5)] below meth c T150 L150 14 30) (e150 : T150.heap = T136.heap) (N150 : Fr n0 L150) (f_150 : Int32) (pj150_f0 : own_is f_150 ((1 : Int32) < (p5 &&& (3 : Int32)))), G (T150.setTop (mkF m 90 #[.val (.int p0), .val (.int p1), .val (.int p2), .val (.int p3), .val (.long p4), .second, .val (.int p5), .val (.int (p4.toInt32)), .val (.int (((p4.toUInt64 >>> ((32 : Int32) &&& 0x3f).toInt64.toUInt64).toInt64).toInt32)), .val (.int (p5 &&& (3 : Int32))), .val (.int (((p5.toUInt32 >>> ((2 : Int32) &&& 31).toUInt32).toInt32) &&& (3 : Int32))), .val (.ref b101), .val (.ref b110), .val (.int f_149), .unset, .unset, .unset, .unset, .unset, .unset, .unset, .unset] [(.int f_150)])) := by
      intro T150 L150 X150 e150 N150 f_150 pj150_f0
      show G (T150.setTop (mkF m 90 #[.val (.int p0), .val (.int p1), .val (.int p2), .val (.int p3), .val (.long p4), .second, .val (.int p5), .val (.int (p4.toInt32)), .val (.int (((p4.toUInt64 >>> ((32 : Int32) &&& 0x3f).toInt64.toUInt64).toInt64).toInt32)), .val (.int (p5 &&& (3 : Int32))), .val (.int (((p5.toUInt32 >>> ((2 : Int32) &&& 31).toUInt32).toInt32) &&& (3 : Int32))), .val (.ref b101), .val (.ref b110), .val (.int f_149), .unset, .unset, .unset, .unset, .unset, .unset, .unset, .unset] [(.int f_150)]))
      refine go _ _ (fun _ k => XS.istore X150.here hx rfl (hb hby at_90) rfl (l' := #[.val (.int p0), .val (.int p1), .val (.int p2), .val (.int p3), .val (.long p4), .second, .val (.int p5), .val (.int (p4.toInt32)), .val (.int (((p4.toUInt64 >>> ((32 : Int32) &&& 0x3f).toInt64.toUInt64).toInt64).toInt32)), .val (.int (p5 &&& (3 : Int32))), .val (.int (((p5.toUInt32 >>> ((2 : Int32) &&& 31).toUInt32).toInt32) &&& (3 : Int32))), .val (.ref b101), .val (.ref b110), .val (.int f_149), .val (.int f_150), .unset, .unset, .unset, .unset, .unset, .unset, .unset]) rfl (XS.iload X150.here hx rfl (hb hby at_92) rfl (XS.iconst X150.here hx rfl (hb hby at_94) k))) ?_
      show G (T150.setTop (mkF m 95 #[.val (.int p0), .val (.int p1), .val (.int p2), .val (.int p3), .val (.long p4), .second, .val (.int p5), .val (.int (p4.toInt32)), .val (.int (((p4.toUInt64 >>> ((32 : Int32) &&& 0x3f).toInt64.toUInt64).toInt64).toInt32)), .val (.int (p5 &&& (3 : Int32))), .val (.int (((p5.toUInt32 >>> ((2 : Int32) &&& 31).toUInt32).toInt32) &&& (3 : Int32))), .val (.ref b101), .val (.ref b110), .val (.int f_149), .val (.int f_150), .unset, .unset, .unset, .unset, .unset, .unset, .unset] [(.int (2 : Int32)), (.int (p5 &&& (3 : Int32)))]))
      have J151 : ∀ (T151 : State) (L151 : List Loc) (X151 : Stand p l e room_1 s m #[(.int p0), (.int p1), (.int p2), (.int p3), (.long p4), (.int p5)] below meth c T151 L151 14 30) (e151 : T151.heap = T136.heap) (N151 : Fr n0 L151) (f_151 : Int32) (pj151_f0 : own_is f_151 ((2 : Int32) < (p5 &&& (3 : Int32)))), G (T151.setTop (mkF m 103 #[.val (.int p0), .val (.int p1), .val (.int p2), .val (.int p3), .val (.long p4), .second, .val (.int p5), .val (.int (p4.toInt32)), .val (.int (((p4.toUInt64 >>> ((32 : Int32) &&& 0x3f).toInt64.toUInt64).toInt64).toInt32)), .val (.int (p5 &&& (3 : Int32))), .val (.int (((p5.toUInt32 >>> ((2 : Int32) &&& 31).toUInt32).toInt32) &&& (3 : Int32))), .val (.ref b101), .val (.ref b110), .val (.int f_149), .val (.int f_150), .unset, .unset, .unset, .unset, .unset, .unset, .unset] [(.int f_151)])) := by
        intro T151 L151 X151 e151 N151 f_151 pj151_f0
        show G (T151.setTop (mkF m 103 #[.val (.int p0), .val (.int p1), .val (.int p2), .val (.int p3), .val (.long p4), .second, .val (.int p5), .val (.int (p4.toInt32)), .val (.int (((p4.toUInt64 >>> ((32 : Int32) &&& 0x3f).toInt64.toUInt64).toInt64).toInt32)), .val (.int (p5 &&& (3 : Int32))), .val (.int (((p5.toUInt32 >>> ((2 : Int32) &&& 31).toUInt32).toInt32) &&& (3 : Int32))), .val (.ref b101), .val (.ref b110), .val (.int f_149), .val (.int f_150), .unset, .unset, .unset, .unset, .unset, .unset, .unset] [(.int f_151)]))
        refine go _ _ (fun _ k => XS.istore X151.here hx rfl (hb hby at_103) rfl (l' := #[.val (.int p0), .val (.int p1), .val (.int p2), .val (.int p3), .val (.long p4), .second, .val (.int p5), .val (.int (p4.toInt32)), .val (.int (((p4.toUInt64 >>> ((32 : Int32) &&& 0x3f).toInt64.toUInt64).toInt64).toInt32)), .val (.int (p5 &&& (3 : Int32))), .val (.int (((p5.toUInt32 >>> ((2 : Int32) &&& 31).toUInt32).toInt32) &&& (3 : Int32))), .val (.ref b101), .val (.ref b110), .val (.int f_149), .val (.int f_150), .val (.int f_151), .unset, .unset, .unset, .unset, .unset, .unset]) rfl (XS.iload X151.here hx rfl (hb hby at_105) rfl k)) ?_
        show G (T151.setTop (mkF m 107 #[.val (.int p0), .val (.int p1), .val (.int p2), .val (.int p3), .val (.long p4), .second, .val (.int p5), .val (.int (p4.toInt32)), .val (.int (((p4.toUInt64 >>> ((32 : Int32) &&& 0x3f).toInt64.toUInt64).toInt64).toInt32)), .val (.int (p5 &&& (3 : Int32))), .val (.int (((p5.toUInt32 >>> ((2 : Int32) &&& 31).toUInt32).toInt32) &&& (3 : Int32))), .val (.ref b101), .val (.ref b110), .val (.int f_149), .val (.int f_150), .val (.int f_151), .unset, .unset, .unset, .unset, .unset, .unset] [(.int (((p5.toUInt32 >>> ((2 : Int32) &&& 31).toUInt32).toInt32) &&& (3 : Int32)))]))
        have J152 : ∀ (T152 : State) (L152 : List Loc) (X152 : Stand p l e room_1 s m #[(.int p0), (.int p1), (.int p2), (.int p3), (.long p4), (.int p5)] below meth c T152 L152 14 30) (e152 : T152.heap = T136.heap) (N152 : Fr n0 L152) (f_152 : Int32) (pj152_f0 : own_is f_152 ((0 : Int32) < (((p5.toUInt32 >>> ((2 : Int32) &&& 31).toUInt32).toInt32) &&& (3 : Int32)))), G (T152.setTop (mkF m 115 #[.val (.int p0), .val (.int p1), .val (.int p2), .val (.int p3), .val (.long p4), .second, .val (.int p5), .val (.int (p4.toInt32)), .val (.int (((p4.toUInt64 >>> ((32 : Int32) &&& 0x3f).toInt64.toUInt64).toInt64).toInt32)), .val (.int (p5 &&& (3 : Int32))), .val (.int (((p5.toUInt32 >>> ((2 : Int32) &&& 31).toUInt32).toInt32) &&& (3 : Int32))), .val (.ref b101), .val (.ref b110), .val (.int f_149), .val (.int f_150), .val (.int f_151), .unset, .unset, .unset, .unset, .unset, .unset] [(.int f_152)])) := by
          intro T152 L152 X152 e152 N152 f_152 pj152_f0
          show G (T152.setTop (mkF m 115 #[.val (.int p0), .val (.int p1), .val (.int p2), .val (.int p3), .val (.long p4), .second, .val (.int p5), .val (.int (p4.toInt32)), .val (.int (((p4.toUInt64 >>> ((32 : Int32) &&& 0x3f).toInt64.toUInt64).toInt64).toInt32)), .val (.int (p5 &&& (3 : Int32))), .val (.int (((p5.toUInt32 >>> ((2 : Int32) &&& 31).toUInt32).toInt32) &&& (3 : Int32))), .val (.ref b101), .val (.ref b110), .val (.int f_149), .val (.int f_150), .val (.int f_151), .unset, .unset, .unset, .unset, .unset, .unset] [(.int f_152)]))
          refine go _ _ (fun _ k => XS.istore X152.here hx rfl (hb hby at_115) rfl (l' := #[.val (.int p0), .val (.int p1), .val (.int p2), .val (.int p3), .val (.long p4), .second, .val (.int p5), .val (.int (p4.toInt32)), .val (.int (((p4.toUInt64 >>> ((32 : Int32) &&& 0x3f).toInt64.toUInt64).toInt64).toInt32)), .val (.int (p5 &&& (3 : Int32))), .val (.int (((p5.toUInt32 >>> ((2 : Int32) &&& 31).toUInt32).toInt32) &&& (3 : Int32))), .val (.ref b101), .val (.ref b110), .val (.int f_149), .val (.int f_150), .val (.int f_151), .val (.int f_152), .unset, .unset, .unset, .unset, .unset]) rfl (XS.iload X152.here hx rfl (hb hby at_117) rfl (XS.iconst X152.here hx rfl (hb hby at_119) k))) ?_
          show G (T152.setTop (mkF m 120 #[.val (.int p0), .val (.int p1), .val (.int p2), .val (.int p3), .val (.long p4), .second, .val (.int p5), .val (.int (p4.toInt32)), .val (.int (((p4.toUInt64 >>> ((32 : Int32) &&& 0x3f).toInt64.toUInt64).toInt64).toInt32)), .val (.int (p5 &&& (3 : Int32))), .val (.int (((p5.toUInt32 >>> ((2 : Int32) &&& 31).toUInt32).toInt32) &&& (3 : Int32))), .val (.ref b101), .val (.ref b110), .val (.int f_149), .val (.int f_150), .val (.int f_151), .val (.int f_152), .unset, .unset, .unset, .unset, .unset] [(.int (1 : Int32)), (.int (((p5.toUInt32 >>> ((2 : Int32) &&& 31).toUInt32).toInt32) &&& (3 : Int32)))]))
          have J153 : ∀ (T153 : State) (L153 : List Loc) (X153 : Stand p l e room_1 s m #[(.int p0), (.int p1), (.int p2), (.int p3), (.long p4), (.int p5)] below meth c T153 L153 14 30) (e153 : T153.heap = T136.heap) (N153 : Fr n0 L153) (f_153 : Int32) (pj153_f0 : own_is f_153 ((1 : Int32) < (((p5.toUInt32 >>> ((2 : Int32) &&& 31).toUInt32).toInt32) &&& (3 : Int32)))), G (T153.setTop (mkF m 128 #[.val (.int p0), .val (.int p1), .val (.int p2), .val (.int p3), .val (.long p4), .second, .val (.int p5), .val (.int (p4.toInt32)), .val (.int (((p4.toUInt64 >>> ((32 : Int32) &&& 0x3f).toInt64.toUInt64).toInt64).toInt32)), .val (.int (p5 &&& (3 : Int32))), .val (.int (((p5.toUInt32 >>> ((2 : Int32) &&& 31).toUInt32).toInt32) &&& (3 : Int32))), .val (.ref b101), .val (.ref b110), .val (.int f_149), .val (.int f_150), .val (.int f_151), .val (.int f_152), .unset, .unset, .unset, .unset, .unset] [(.int f_153)])) := by
            intro T153 L153 X153 e153 N153 f_153 pj153_f0
            show G (T153.setTop (mkF m 128 #[.val (.int p0), .val (.int p1), .val (.int p2), .val (.int p3), .val (.long p4), .second, .val (.int p5), .val (.int (p4.toInt32)), .val (.int (((p4.toUInt64 >>> ((32 : Int32) &&& 0x3f).toInt64.toUInt64).toInt64).toInt32)), .val (.int (p5 &&& (3 : Int32))), .val (.int (((p5.toUInt32 >>> ((2 : Int32) &&& 31).toUInt32).toInt32) &&& (3 : Int32))), .val (.ref b101), .val (.ref b110), .val (.int f_149), .val (.int f_150), .val (.int f_151), .val (.int f_152), .unset, .unset, .unset, .unset, .unset] [(.int f_153)]))
            refine go _ _ (fun _ k => XS.istore X153.here hx rfl (hb hby at_128) rfl (l' := #[.val (.int p0), .val (.int p1), .val (.int p2), .val (.int p3), .val (.long p4), .second, .val (.int p5), .val (.int (p4.toInt32)), .val (.int (((p4.toUInt64 >>> ((32 : Int32) &&& 0x3f).toInt64.toUInt64).toInt64).toInt32)), .val (.int (p5 &&& (3 : Int32))), .val (.int (((p5.toUInt32 >>> ((2 : Int32) &&& 31).toUInt32).toInt32) &&& (3 : Int32))), .val (.ref b101), .val (.ref b110), .val (.int f_149), .val (.int f_150), .val (.int f_151), .val (.int f_152), .val (.int f_153), .unset, .unset, .unset, .unset]) rfl (XS.iload X153.here hx rfl (hb hby at_130) rfl (XS.iconst X153.here hx rfl (hb hby at_132) k))) ?_
            show G (T153.setTop (mkF m 133 #[.val (.int p0), .val (.int p1), .val (.int p2), .val (.int p3), .val (.long p4), .second, .val (.int p5), .val (.int (p4.toInt32)), .val (.int (((p4.toUInt64 >>> ((32 : Int32) &&& 0x3f).toInt64.toUInt64).toInt64).toInt32)), .val (.int (p5 &&& (3 : Int32))), .val (.int (((p5.toUInt32 >>> ((2 : Int32) &&& 31).toUInt32).toInt32) &&& (3 : Int32))), .val (.ref b101), .val (.ref b110), .val (.int f_149), .val (.int f_150), .val (.int f_151), .val (.int f_152), .val (.int f_153), .unset, .unset, .unset, .unset] [(.int (2 : Int32)), (.int (((p5.toUInt32 >>> ((2 : Int32) &&& 31).toUInt32).toInt32) &&& (3 : Int32)))]))
            have J154 : ∀ (T154 : State) (L154 : List Loc) (X154 : Stand p l e room_1 s m #[(.int p0), (.int p1), (.int p2), (.int p3), (.long p4), (.int p5)] below meth c T154 L154 14 30) (e154 : T154.heap = T136.heap) (N154 : Fr n0 L154) (f_154 : Int32) (pj154_f0 : own_is f_154 ((2 : Int32) < (((p5.toUInt32 >>> ((2 : Int32) &&& 31).toUInt32).toInt32) &&& (3 : Int32)))), G (T154.setTop (mkF m 141 #[.val (.int p0), .val (.int p1), .val (.int p2), .val (.int p3), .val (.long p4), .second, .val (.int p5), .val (.int (p4.toInt32)), .val (.int (((p4.toUInt64 >>> ((32 : Int32) &&& 0x3f).toInt64.toUInt64).toInt64).toInt32)), .val (.int (p5 &&& (3 : Int32))), .val (.int (((p5.toUInt32 >>> ((2 : Int32) &&& 31).toUInt32).toInt32) &&& (3 : Int32))), .val (.ref b101), .val (.ref b110), .val (.int f_149), .val (.int f_150), .val (.int f_151), .val (.int f_152), .val (.int f_153), .unset, .unset, .unset, .unset] [(.int f_154)])) := by
              intro T154 L154 X154 e154 N154 f_154 pj154_f0
              show G (T154.setTop (mkF m 141 #[.val (.int p0), .val (.int p1), .val (.int p2), .val (.int p3), .val (.long p4), .second, .val (.int p5), .val (.int (p4.toInt32)), .val (.int (((p4.toUInt64 >>> ((32 : Int32) &&& 0x3f).toInt64.toUInt64).toInt64).toInt32)), .val (.int (p5 &&& (3 : Int32))), .val (.int (((p5.toUInt32 >>> ((2 : Int32) &&& 31).toUInt32).toInt32) &&& (3 : Int32))), .val (.ref b101), .val (.ref b110), .val (.int f_149), .val (.int f_150), .val (.int f_151), .val (.int f_152), .val (.int f_153), .unset, .unset, .unset, .unset] [(.int f_154)]))
              refine go _ _ (fun _ k => XS.istore X154.here hx rfl (hb hby at_141) rfl (l' := #[.val (.int p0), .val (.int p1), .val (.int p2), .val (.int p3), .val (.long p4), .second, .val (.int p5), .val (.int (p4.toInt32)), .val (.int (((p4.toUInt64 >>> ((32 : Int32) &&& 0x3f).toInt64.toUInt64).toInt64).toInt32)), .val (.int (p5 &&& (3 : Int32))), .val (.int (((p5.toUInt32 >>> ((2 : Int32) &&& 31).toUInt32).toInt32) &&& (3 : Int32))), .val (.ref b101), .val (.ref b110), .val (.int f_149), .val (.int f_150), .val (.int f_151), .val (.int f_152), .val (.int f_153), .val (.int f_154), .unset, .unset, .unset]) rfl k) ?_
              show G (T154.setTop (mkF m 143 #[.val (.int p0), .val (.int p1), .val (.int p2), .val (.int p3), .val (.long p4), .second, .val (.int p5), .val (.int (p4.toInt32)), .val (.int (((p4.toUInt64 >>> ((32 : Int32) &&& 0x3f).toInt64.toUInt64).toInt64).toInt32)), .val (.int (p5 &&& (3 : Int32))), .val (.int (((p5.toUInt32 >>> ((2 : Int32) &&& 31).toUInt32).toInt32) &&& (3 : Int32))), .val (.ref b101), .val (.ref b110), .val (.int f_149), .val (.int f_150), .val (.int f_151), .val (.int f_152), .val (.int f_153), .val (.int f_154), .unset, .unset, .unset] []))
              have J155 : ∀ (T155 : State) (L155 : List Loc) (X155 : Stand p l e room_1 s m #[(.int p0), (.int p1), (.int p2), (.int p3), (.long p4), (.int p5)] below meth c T155 L155 14 30) (e155 : T155.heap = T136.heap) (N155 : Fr n0 L155) (ex_155 : Int32) (pj155_ex0 : own_is ex_155 (own_C (p5 &&& (3 : Int32)) p0 p1 (p4.toInt32) (((p5.toUInt32 >>> ((2 : Int32) &&& 31).toUInt32).toInt32) &&& (3 : Int32)) p2 p3 (((p4.toUInt64 >>> ((32 : Int32) &&& 0x3f).toInt64.toUInt64).toInt64).toInt32))), G (T155.setTop (mkF m 262 #[.val (.int p0), .val (.int p1), .val (.int p2), .val (.int p3), .val (.long p4), .second, .val (.int p5), .val (.int (p4.toInt32)), .val (.int (((p4.toUInt64 >>> ((32 : Int32) &&& 0x3f).toInt64.toUInt64).toInt64).toInt32)), .val (.int (p5 &&& (3 : Int32))), .val (.int (((p5.toUInt32 >>> ((2 : Int32) &&& 31).toUInt32).toInt32) &&& (3 : Int32))), .val (.ref b101), .val (.ref b110), .val (.int f_149), .val (.int f_150), .val (.int f_151), .val (.int f_152), .val (.int f_153), .val (.int f_154), .unset, .unset, .unset] [(.int ex_155)])) := by
                intro T155 L155 X155 e155 N155 ex_155 pj155_ex0
                show G (T155.setTop (mkF m 262 #[.val (.int p0), .val (.int p1), .val (.int p2), .val (.int p3), .val (.long p4), .second, .val (.int p5), .val (.int (p4.toInt32)), .val (.int (((p4.toUInt64 >>> ((32 : Int32) &&& 0x3f).toInt64.toUInt64).toInt64).toInt32)), .val (.int (p5 &&& (3 : Int32))), .val (.int (((p5.toUInt32 >>> ((2 : Int32) &&& 31).toUInt32).toInt32) &&& (3 : Int32))), .val (.ref b101), .val (.ref b110), .val (.int f_149), .val (.int f_150), .val (.int f_151), .val (.int f_152), .val (.int f_153), .val (.int f_154), .unset, .unset, .unset] [(.int ex_155)]))
                refine go _ _ (fun _ k => XS.istore X155.here hx rfl (hb hby at_262) rfl (l' := #[.val (.int p0), .val (.int p1), .val (.int p2), .val (.int p3), .val (.long p4), .second, .val (.int p5), .val (.int (p4.toInt32)), .val (.int (((p4.toUInt64 >>> ((32 : Int32) &&& 0x3f).toInt64.toUInt64).toInt64).toInt32)), .val (.int (p5 &&& (3 : Int32))), .val (.int (((p5.toUInt32 >>> ((2 : Int32) &&& 31).toUInt32).toInt32) &&& (3 : Int32))), .val (.ref b101), .val (.ref b110), .val (.int f_149), .val (.int f_150), .val (.int f_151), .val (.int f_152), .val (.int f_153), .val (.int f_154), .val (.int ex_155), .unset, .unset]) rfl (XS.aload X155.here hx rfl (hb hby at_264) rfl rfl (XS.aload X155.here hx rfl (hb hby at_266) rfl rfl k))) ?_
                show G (T155.setTop (mkF m 268 #[.val (.int p0), .val (.int p1), .val (.int p2), .val (.int p3), .val (.long p4), .second, .val (.int p5), .val (.int (p4.toInt32)), .val (.int (((p4.toUInt64 >>> ((32 : Int32) &&& 0x3f).toInt64.toUInt64).toInt64).toInt32)), .val (.int (p5 &&& (3 : Int32))), .val (.int (((p5.toUInt32 >>> ((2 : Int32) &&& 31).toUInt32).toInt32) &&& (3 : Int32))), .val (.ref b101), .val (.ref b110), .val (.int f_149), .val (.int f_150), .val (.int f_151), .val (.int f_152), .val (.int f_153), .val (.int f_154), .val (.int ex_155), .unset, .unset] [(.ref b110), (.ref b101)]))
                have K157 : Keep T121.heap T136.heap [b110] := (Keep.refl T121.heap [b110]).trans Kp136 (allS (Or.inl (List.mem_of_getElem? (i := 0) rfl)) all0)
                have F158 : own_IS Z T136.heap b101 ps_131 := (own_IS_keep1 f135 K157 (Nat.ne_of_lt (Nat.lt_of_lt_of_le f106.lt (Nat.le_of_eq g110.symm))) F139 (ow hw 1 rfl))
                have Z159 : h0.size ≤ T136.heap.size := Nat.le_trans Z143 Kp136.1
                have F160 : Exa Z T136.heap b101 "com/example/hatoyama/hatoyama/IndexSet" := (f134.keep K157)
                obtain ⟨rv156, T156, L156, X156, q156, st156⟩ := own_vi X155 hx hZ (y := (⟨"com/example/hatoyama/hatoyama/IndexSet", "intersects", "(Lcom/example/hatoyama/hatoyama/IndexSet;)Z"⟩ : MethodName)) (z := (⟨"com/example/hatoyama/hatoyama/IndexSet", "intersects", "(Lcom/example/hatoyama/hatoyama/IndexSet;)Z"⟩ : MethodName)) hown (ow hw 65 rfl) (ow hw 66 rfl) (ow hw 68 rfl) (ow hw 67 rfl) (Or.inl rfl) (by decide) (own_bkN (W := 0) (rm13 l Z a0 hw nk kk0 O_nk V_nk nw kw0 O_nw V_nw [] b101 b110 ps_131 ps_144 T136.heap n0 (Nat.le_trans Z0 Z159) F158 f148 p132 p145) hZ (ow hw 69 rfl) (ow hw 2 rfl) (by decide) (by decide)) e155 F160 (g := (mkF m 268 #[.val (.int p0), .val (.int p1), .val (.int p2), .val (.int p3), .val (.long p4), .second, .val (.int p5), .val (.int (p4.toInt32)), .val (.int (((p4.toUInt64 >>> ((32 : Int32) &&& 0x3f).toInt64.toUInt64).toInt64).toInt32)), .val (.int (p5 &&& (3 : Int32))), .val (.int (((p5.toUInt32 >>> ((2 : Int32) &&& 31).toUInt32).toInt32) &&& (3 : Int32))), .val (.ref b101), .val (.ref b110), .val (.int f_149), .val (.int f_150), .val (.int f_151), .val (.int f_152), .val (.int f_153), .val (.int f_154), .val (.int ex_155), .unset, .unset] [(.ref b110), (.ref b101)])) rfl (by rw [hml]; rfl) (argsL := [(.ref b110)]) (rest := []) rfl (lenOf own_pd8 rfl) rfl (by show 2 * 0 + _ ≤ _; exact Nat.le_of_eq rfl) (hb hby at_268) (by decide) (by decide)
                obtain ⟨Nq156, e156, q156⟩ := q156
                have N156 := Fr.app N155 Nq156
                rcases q156 with ⟨rfl, p161⟩ | ⟨rfl, p162⟩
                · refine go _ _ (st156) ?_
                  show G (T156.setTop (mkF m 271 #[.val (.int p0), .val (.int p1), .val (.int p2), .val (.int p3), .val (.long p4), .second, .val (.int p5), .val (.int (p4.toInt32)), .val (.int (((p4.toUInt64 >>> ((32 : Int32) &&& 0x3f).toInt64.toUInt64).toInt64).toInt32)), .val (.int (p5 &&& (3 : Int32))), .val (.int (((p5.toUInt32 >>> ((2 : Int32) &&& 31).toUInt32).toInt32) &&& (3 : Int32))), .val (.ref b101), .val (.ref b110), .val (.int f_149), .val (.int f_150), .val (.int f_151), .val (.int f_152), .val (.int f_153), .val (.int f_154), .val (.int ex_155), .unset, .unset] [(.int (1 : Int32))]))
                  refine go _ _ (fun _ k => XS.istore X156.here hx rfl (hb hby at_271) rfl (l' := #[.val (.int p0), .val (.int p1), .val (.int p2), .val (.int p3), .val (.long p4), .second, .val (.int p5), .val (.int (p4.toInt32)), .val (.int (((p4.toUInt64 >>> ((32 : Int32) &&& 0x3f).toInt64.toUInt64).toInt64).toInt32)), .val (.int (p5 &&& (3 : Int32))), .val (.int (((p5.toUInt32 >>> ((2 : Int32) &&& 31).toUInt32).toInt32) &&& (3 : Int32))), .val (.ref b101), .val (.ref b110), .val (.int f_149), .val (.int f_150), .val (.int f_151), .val (.int f_152), .val (.int f_153), .val (.int f_154), .val (.int ex_155), .val (.int (1 : Int32)), .unset]) rfl (XS.aload X156.here hx rfl (hb hby at_273) rfl rfl (XS.aload X156.here hx rfl (hb hby at_275) rfl rfl k))) ?_
                  show G (T156.setTop (mkF m 277 #[.val (.int p0), .val (.int p1), .val (.int p2), .val (.int p3), .val (.long p4), .second, .val (.int p5), .val (.int (p4.toInt32)), .val (.int (((p4.toUInt64 >>> ((32 : Int32) &&& 0x3f).toInt64.toUInt64).toInt64).toInt32)), .val (.int (p5 &&& (3 : Int32))), .val (.int (((p5.toUInt32 >>> ((2 : Int32) &&& 31).toUInt32).toInt32) &&& (3 : Int32))), .val (.ref b101), .val (.ref b110), .val (.int f_149), .val (.int f_150), .val (.int f_151), .val (.int f_152), .val (.int f_153), .val (.int f_154), .val (.int ex_155), .val (.int (1 : Int32)), .unset] [(.ref b101), (.ref b110)]))
                  obtain ⟨rv163, T163, L163, X163, q163, st163⟩ := own_vi X156 hx hZ (y := (⟨"com/example/hatoyama/hatoyama/IndexSet", "intersects", "(Lcom/example/hatoyama/hatoyama/IndexSet;)Z"⟩ : MethodName)) (z := (⟨"com/example/hatoyama/hatoyama/IndexSet", "intersects", "(Lcom/example/hatoyama/hatoyama/IndexSet;)Z"⟩ : MethodName)) hown (ow hw 65 rfl) (ow hw 66 rfl) (ow hw 68 rfl) (ow hw 67 rfl) (Or.inl rfl) (by decide) (own_bkN (W := 0) (rm13 l Z a0 hw nk kk0 O_nk V_nk nw kw0 O_nw V_nw [] b110 b101 ps_144 ps_131 T136.heap n0 (Nat.le_trans Z0 Z159) f148 F158 p145 p132) hZ (ow hw 69 rfl) (ow hw 2 rfl) (by decide) (by decide)) e156 f147 (g := (mkF m 277 #[.val (.int p0), .val (.int p1), .val (.int p2), .val (.int p3), .val (.long p4), .second, .val (.int p5), .val (.int (p4.toInt32)), .val (.int (((p4.toUInt64 >>> ((32 : Int32) &&& 0x3f).toInt64.toUInt64).toInt64).toInt32)), .val (.int (p5 &&& (3 : Int32))), .val (.int (((p5.toUInt32 >>> ((2 : Int32) &&& 31).toUInt32).toInt32) &&& (3 : Int32))), .val (.ref b101), .val (.ref b110), .val (.int f_149), .val (.int f_150), .val (.int f_151), .val (.int f_152), .val (.int f_153), .val (.int f_154), .val (.int ex_155), .val (.int (1 : Int32)), .unset] [(.ref b101), (.ref b110)])) rfl (by rw [hml]; rfl) (argsL := [(.ref b101)]) (rest := []) rfl (lenOf own_pd8 rfl) rfl (by show 2 * 0 + _ ≤ _; exact Nat.le_of_eq rfl) (hb hby at_277) (by decide) (by decide)
                  obtain ⟨Nq163, e163, q163⟩ := q163
                  have N163 := Fr.app N156 Nq163
                  rcases q163 with ⟨rfl, p164⟩ | ⟨rfl, p165⟩
                  · refine go _ _ (st163) ?_
                    show G (T163.setTop (mkF m 280 #[.val (.int p0), .val (.int p1), .val (.int p2), .val (.int p3), .val (.long p4), .second, .val (.int p5), .val (.int (p4.toInt32)), .val (.int (((p4.toUInt64 >>> ((32 : Int32) &&& 0x3f).toInt64.toUInt64).toInt64).toInt32)), .val (.int (p5 &&& (3 : Int32))), .val (.int (((p5.toUInt32 >>> ((2 : Int32) &&& 31).toUInt32).toInt32) &&& (3 : Int32))), .val (.ref b101), .val (.ref b110), .val (.int f_149), .val (.int f_150), .val (.int f_151), .val (.int f_152), .val (.int f_153), .val (.int f_154), .val (.int ex_155), .val (.int (1 : Int32)), .unset] [(.int (1 : Int32))]))
                    refine go _ _ (fun _ k => XS.istore X163.here hx rfl (hb hby at_280) rfl (l' := #[.val (.int p0), .val (.int p1), .val (.int p2), .val (.int p3), .val (.long p4), .second, .val (.int p5), .val (.int (p4.toInt32)), .val (.int (((p4.toUInt64 >>> ((32 : Int32) &&& 0x3f).toInt64.toUInt64).toInt64).toInt32)), .val (.int (p5 &&& (3 : Int32))), .val (.int (((p5.toUInt32 >>> ((2 : Int32) &&& 31).toUInt32).toInt32) &&& (3 : Int32))), .val (.ref b101), .val (.ref b110), .val (.int f_149), .val (.int f_150), .val (.int f_151), .val (.int f_152), .val (.int f_153), .val (.int f_154), .val (.int ex_155), .val (.int (1 : Int32)), .val (.int (1 : Int32))]) rfl (XS.iload X163.here hx rfl (hb hby at_282) rfl (XS.iload X163.here hx rfl (hb hby at_284) rfl k))) ?_
                    show G (T163.setTop (mkF m 286 #[.val (.int p0), .val (.int p1), .val (.int p2), .val (.int p3), .val (.long p4), .second, .val (.int p5), .val (.int (p4.toInt32)), .val (.int (((p4.toUInt64 >>> ((32 : Int32) &&& 0x3f).toInt64.toUInt64).toInt64).toInt32)), .val (.int (p5 &&& (3 : Int32))), .val (.int (((p5.toUInt32 >>> ((2 : Int32) &&& 31).toUInt32).toInt32) &&& (3 : Int32))), .val (.ref b101), .val (.ref b110), .val (.int f_149), .val (.int f_150), .val (.int f_151), .val (.int f_152), .val (.int f_153), .val (.int f_154), .val (.int ex_155), .val (.int (1 : Int32)), .val (.int (1 : Int32))] [(.int ex_155), (.int (1 : Int32))]))
                    refine go _ _ (fun _ k => XS.icmpNo X163.here hx rfl (hb hby at_286) rfl (teq (own_is1 pj155_ex0 ((own_Cyes p132 p133 p146).mp p161))).2 k) ?_
                    show G (T163.setTop (mkF m 289 #[.val (.int p0), .val (.int p1), .val (.int p2), .val (.int p3), .val (.long p4), .second, .val (.int p5), .val (.int (p4.toInt32)), .val (.int (((p4.toUInt64 >>> ((32 : Int32) &&& 0x3f).toInt64.toUInt64).toInt64).toInt32)), .val (.int (p5 &&& (3 : Int32))), .val (.int (((p5.toUInt32 >>> ((2 : Int32) &&& 31).toUInt32).toInt32) &&& (3 : Int32))), .val (.ref b101), .val (.ref b110), .val (.int f_149), .val (.int f_150), .val (.int f_151), .val (.int f_152), .val (.int f_153), .val (.int f_154), .val (.int ex_155), .val (.int (1 : Int32)), .val (.int (1 : Int32))] []))
                    refine go _ _ (fun _ k => XS.iload X163.here hx rfl (hb hby at_289) rfl (XS.iload X163.here hx rfl (hb hby at_291) rfl k)) ?_
                    show G (T163.setTop (mkF m 293 #[.val (.int p0), .val (.int p1), .val (.int p2), .val (.int p3), .val (.long p4), .second, .val (.int p5), .val (.int (p4.toInt32)), .val (.int (((p4.toUInt64 >>> ((32 : Int32) &&& 0x3f).toInt64.toUInt64).toInt64).toInt32)), .val (.int (p5 &&& (3 : Int32))), .val (.int (((p5.toUInt32 >>> ((2 : Int32) &&& 31).toUInt32).toInt32) &&& (3 : Int32))), .val (.ref b101), .val (.ref b110), .val (.int f_149), .val (.int f_150), .val (.int f_151), .val (.int f_152), .val (.int f_153), .val (.int f_154), .val (.int ex_155), .val (.int (1 : Int32)), .val (.int (1 : Int32))] [(.int ex_155), (.int (1 : Int32))]))
                    refine go _ _ (fun _ k => XS.icmpNo X163.here hx rfl (hb hby at_293) rfl (teq (own_is1 pj155_ex0 ((own_yes_symm.trans (own_Cyes p132 p133 p146)).mp p164))).2 k) ?_
                    show G (T163.setTop (mkF m 296 #[.val (.int p0), .val (.int p1), .val (.int p2), .val (.int p3), .val (.long p4), .second, .val (.int p5), .val (.int (p4.toInt32)), .val (.int (((p4.toUInt64 >>> ((32 : Int32) &&& 0x3f).toInt64.toUInt64).toInt64).toInt32)), .val (.int (p5 &&& (3 : Int32))), .val (.int (((p5.toUInt32 >>> ((2 : Int32) &&& 31).toUInt32).toInt32) &&& (3 : Int32))), .val (.ref b101), .val (.ref b110), .val (.int f_149), .val (.int f_150), .val (.int f_151), .val (.int f_152), .val (.int f_153), .val (.int f_154), .val (.int ex_155), .val (.int (1 : Int32)), .val (.int (1 : Int32))] []))
                    refine go _ _ (fun _ k => XS.iconst X163.here hx rfl (hb hby at_296) k) ?_
                    show G (T163.setTop (mkF m 297 #[.val (.int p0), .val (.int p1), .val (.int p2), .val (.int p3), .val (.long p4), .second, .val (.int p5), .val (.int (p4.toInt32)), .val (.int (((p4.toUInt64 >>> ((32 : Int32) &&& 0x3f).toInt64.toUInt64).toInt64).toInt32)), .val (.int (p5 &&& (3 : Int32))), .val (.int (((p5.toUInt32 >>> ((2 : Int32) &&& 31).toUInt32).toInt32) &&& (3 : Int32))), .val (.ref b101), .val (.ref b110), .val (.int f_149), .val (.int f_150), .val (.int f_151), .val (.int f_152), .val (.int f_153), .val (.int f_154), .val (.int ex_155), .val (.int (1 : Int32)), .val (.int (1 : Int32))] [(.int (1 : Int32))]))
                    refine go _ _ (fun _ k => XS.goto X163.here hx rfl (pc0 := 297) (pc' := 301) rfl (hb hby at_297) (by decide) (by decide) k) ?_
                    show G (T163.setTop (mkF m 301 #[.val (.int p0), .val (.int p1), .val (.int p2), .val (.int p3), .val (.long p4), .second, .val (.int p5), .val (.int (p4.toInt32)), .val (.int (((p4.toUInt64 >>> ((32 : Int32) &&& 0x3f).toInt64.toUInt64).toInt64).toInt32)), .val (.int (p5 &&& (3 : Int32))), .val (.int (((p5.toUInt32 >>> ((2 : Int32) &&& 31).toUInt32).toInt32) &&& (3 : Int32))), .val (.ref b101), .val (.ref b110), .val (.int f_149), .val (.int f_150), .val (.int f_151), .val (.int f_152), .val (.int f_153), .val (.int f_154), .val (.int ex_155), .val (.int (1 : Int32)), .val (.int (1 : Int32))] [(.int (1 : Int32))]))
                    have K166 : Keep h0 T102.heap [] := K103.trans Kp102 (allS (Or.inr (Nat.le_of_eq g101.symm)) all0)
                    have K167 : Keep h0 h110 [] := K166.ext E110
                    have K168 : Keep h0 T111.heap [] := K167.trans Kp111 (allS (Or.inr (Nat.le_trans Z115 (Nat.le_of_eq g110.symm))) all0)
                    have K169 : Keep h0 T121.heap [] := K168.trans Kp121 (allS (Or.inr (Nat.le_of_eq g101.symm)) all0)
                    have K170 : Keep h0 T136.heap [] := K169.trans Kp136 (allS (Or.inr (Nat.le_trans Z115 (Nat.le_of_eq g110.symm))) all0)
                    refine fin T163 _ _ _ (some (.int (1 : Int32))) X163 (fun q => nomatch q) (by decide) (by decide) (by rw [e163]; exact ⟨N163, K170, rfl⟩) _ (own_retN X163 hx (z := (1 : Int32)) (t := .boolean) hret (by simp) (hb hby at_301))
                  · refine go _ _ (st163) ?_
                    show G (T163.setTop (mkF m 280 #[.val (.int p0), .val (.int p1), .val (.int p2), .val (.int p3), .val (.long p4), .second, .val (.int p5), .val (.int (p4.toInt32)), .val (.int (((p4.toUInt64 >>> ((32 : Int32) &&& 0x3f).toInt64.toUInt64).toInt64).toInt32)), .val (.int (p5 &&& (3 : Int32))), .val (.int (((p5.toUInt32 >>> ((2 : Int32) &&& 31).toUInt32).toInt32) &&& (3 : Int32))), .val (.ref b101), .val (.ref b110), .val (.int f_149), .val (.int f_150), .val (.int f_151), .val (.int f_152), .val (.int f_153), .val (.int f_154), .val (.int ex_155), .val (.int (1 : Int32)), .unset] [(.int (0 : Int32))]))
                    refine go _ _ (fun _ k => XS.istore X163.here hx rfl (hb hby at_280) rfl (l' := #[.val (.int p0), .val (.int p1), .val (.int p2), .val (.int p3), .val (.long p4), .second, .val (.int p5), .val (.int (p4.toInt32)), .val (.int (((p4.toUInt64 >>> ((32 : Int32) &&& 0x3f).toInt64.toUInt64).toInt64).toInt32)), .val (.int (p5 &&& (3 : Int32))), .val (.int (((p5.toUInt32 >>> ((2 : Int32) &&& 31).toUInt32).toInt32) &&& (3 : Int32))), .val (.ref b101), .val (.ref b110), .val (.int f_149), .val (.int f_150), .val (.int f_151), .val (.int f_152), .val (.int f_153), .val (.int f_154), .val (.int ex_155), .val (.int (1 : Int32)), .val (.int (0 : Int32))]) rfl (XS.iload X163.here hx rfl (hb hby at_282) rfl (XS.iload X163.here hx rfl (hb hby at_284) rfl k))) ?_
                    show G (T163.setTop (mkF m 286 #[.val (.int p0), .val (.int p1), .val (.int p2), .val (.int p3), .val (.long p4), .second, .val (.int p5), .val (.int (p4.toInt32)), .val (.int (((p4.toUInt64 >>> ((32 : Int32) &&& 0x3f).toInt64.toUInt64).toInt64).toInt32)), .val (.int (p5 &&& (3 : Int32))), .val (.int (((p5.toUInt32 >>> ((2 : Int32) &&& 31).toUInt32).toInt32) &&& (3 : Int32))), .val (.ref b101), .val (.ref b110), .val (.int f_149), .val (.int f_150), .val (.int f_151), .val (.int f_152), .val (.int f_153), .val (.int f_154), .val (.int ex_155), .val (.int (1 : Int32)), .val (.int (0 : Int32))] [(.int ex_155), (.int (1 : Int32))]))
                    refine go _ _ (fun _ k => XS.icmpNo X163.here hx rfl (hb hby at_286) rfl (teq (own_is1 pj155_ex0 ((own_Cyes p132 p133 p146).mp p161))).2 k) ?_
                    show G (T163.setTop (mkF m 289 #[.val (.int p0), .val (.int p1), .val (.int p2), .val (.int p3), .val (.long p4), .second, .val (.int p5), .val (.int (p4.toInt32)), .val (.int (((p4.toUInt64 >>> ((32 : Int32) &&& 0x3f).toInt64.toUInt64).toInt64).toInt32)), .val (.int (p5 &&& (3 : Int32))), .val (.int (((p5.toUInt32 >>> ((2 : Int32) &&& 31).toUInt32).toInt32) &&& (3 : Int32))), .val (.ref b101), .val (.ref b110), .val (.int f_149), .val (.int f_150), .val (.int f_151), .val (.int f_152), .val (.int f_153), .val (.int f_154), .val (.int ex_155), .val (.int (1 : Int32)), .val (.int (0 : Int32))] []))
                    refine go _ _ (fun _ k => XS.iload X163.here hx rfl (hb hby at_289) rfl (XS.iload X163.here hx rfl (hb hby at_291) rfl k)) ?_
                    show G (T163.setTop (mkF m 293 #[.val (.int p0), .val (.int p1), .val (.int p2), .val (.int p3), .val (.long p4), .second, .val (.int p5), .val (.int (p4.toInt32)), .val (.int (((p4.toUInt64 >>> ((32 : Int32) &&& 0x3f).toInt64.toUInt64).toInt64).toInt32)), .val (.int (p5 &&& (3 : Int32))), .val (.int (((p5.toUInt32 >>> ((2 : Int32) &&& 31).toUInt32).toInt32) &&& (3 : Int32))), .val (.ref b101), .val (.ref b110), .val (.int f_149), .val (.int f_150), .val (.int f_151), .val (.int f_152), .val (.int f_153), .val (.int f_154), .val (.int ex_155), .val (.int (1 : Int32)), .val (.int (0 : Int32))] [(.int ex_155), (.int (0 : Int32))]))
                    refine go _ _ (fun _ k => XS.icmpNo X163.here hx rfl (hb hby at_293) rfl (teq (own_is0 pj155_ex0 (fun y => p165 ((own_yes_symm.trans (own_Cyes p132 p133 p146)).mpr y)))).2 k) ?_
                    show G (T163.setTop (mkF m 296 #[.val (.int p0), .val (.int p1), .val (.int p2), .val (.int p3), .val (.long p4), .second, .val (.int p5), .val (.int (p4.toInt32)), .val (.int (((p4.toUInt64 >>> ((32 : Int32) &&& 0x3f).toInt64.toUInt64).toInt64).toInt32)), .val (.int (p5 &&& (3 : Int32))), .val (.int (((p5.toUInt32 >>> ((2 : Int32) &&& 31).toUInt32).toInt32) &&& (3 : Int32))), .val (.ref b101), .val (.ref b110), .val (.int f_149), .val (.int f_150), .val (.int f_151), .val (.int f_152), .val (.int f_153), .val (.int f_154), .val (.int ex_155), .val (.int (1 : Int32)), .val (.int (0 : Int32))] []))
                    refine go _ _ (fun _ k => XS.iconst X163.here hx rfl (hb hby at_296) k) ?_
                    show G (T163.setTop (mkF m 297 #[.val (.int p0), .val (.int p1), .val (.int p2), .val (.int p3), .val (.long p4), .second, .val (.int p5), .val (.int (p4.toInt32)), .val (.int (((p4.toUInt64 >>> ((32 : Int32) &&& 0x3f).toInt64.toUInt64).toInt64).toInt32)), .val (.int (p5 &&& (3 : Int32))), .val (.int (((p5.toUInt32 >>> ((2 : Int32) &&& 31).toUInt32).toInt32) &&& (3 : Int32))), .val (.ref b101), .val (.ref b110), .val (.int f_149), .val (.int f_150), .val (.int f_151), .val (.int f_152), .val (.int f_153), .val (.int f_154), .val (.int ex_155), .val (.int (1 : Int32)), .val (.int (0 : Int32))] [(.int (1 : Int32))]))
                    refine go _ _ (fun _ k => XS.goto X163.here hx rfl (pc0 := 297) (pc' := 301) rfl (hb hby at_297) (by decide) (by decide) k) ?_
                    show G (T163.setTop (mkF m 301 #[.val (.int p0), .val (.int p1), .val (.int p2), .val (.int p3), .val (.long p4), .second, .val (.int p5), .val (.int (p4.toInt32)), .val (.int (((p4.toUInt64 >>> ((32 : Int32) &&& 0x3f).toInt64.toUInt64).toInt64).toInt32)), .val (.int (p5 &&& (3 : Int32))), .val (.int (((p5.toUInt32 >>> ((2 : Int32) &&& 31).toUInt32).toInt32) &&& (3 : Int32))), .val (.ref b101), .val (.ref b110), .val (.int f_149), .val (.int f_150), .val (.int f_151), .val (.int f_152), .val (.int f_153), .val (.int f_154), .val (.int ex_155), .val (.int (1 : Int32)), .val (.int (0 : Int32))] [(.int (1 : Int32))]))
                    have K171 : Keep h0 T102.heap [] := K103.trans Kp102 (allS (Or.inr (Nat.le_of_eq g101.symm)) all0)
                    have K172 : Keep h0 h110 [] := K171.ext E110
                    have K173 : Keep h0 T111.heap [] := K172.trans Kp111 (allS (Or.inr (Nat.le_trans Z115 (Nat.le_of_eq g110.symm))) all0)
                    have K174 : Keep h0 T121.heap [] := K173.trans Kp121 (allS (Or.inr (Nat.le_of_eq g101.symm)) all0)
                    have K175 : Keep h0 T136.heap [] := K174.trans Kp136 (allS (Or.inr (Nat.le_trans Z115 (Nat.le_of_eq g110.symm))) all0)
                    refine fin T163 _ _ _ (some (.int (1 : Int32))) X163 (fun q => nomatch q) (by decide) (by decide) (by rw [e163]; exact ⟨N163, K175, rfl⟩) _ (own_retN X163 hx (z := (1 : Int32)) (t := .boolean) hret (by simp) (hb hby at_301))
                · refine go _ _ (st156) ?_
                  show G (T156.setTop (mkF m 271 #[.val (.int p0), .val (.int p1), .val (.int p2), .val (.int p3), .val (.long p4), .second, .val (.int p5), .val (.int (p4.toInt32)), .val (.int (((p4.toUInt64 >>> ((32 : Int32) &&& 0x3f).toInt64.toUInt64).toInt64).toInt32)), .val (.int (p5 &&& (3 : Int32))), .val (.int (((p5.toUInt32 >>> ((2 : Int32) &&& 31).toUInt32).toInt32) &&& (3 : Int32))), .val (.ref b101), .val (.ref b110), .val (.int f_149), .val (.int f_150), .val (.int f_151), .val (.int f_152), .val (.int f_153), .val (.int f_154), .val (.int ex_155), .unset, .unset] [(.int (0 : Int32))]))
                  refine go _ _ (fun _ k => XS.istore X156.here hx rfl (hb hby at_271) rfl (l' := #[.val (.int p0), .val (.int p1), .val (.int p2), .val (.int p3), .val (.long p4), .second, .val (.int p5), .val (.int (p4.toInt32)), .val (.int (((p4.toUInt64 >>> ((32 : Int32) &&& 0x3f).toInt64.toUInt64).toInt64).toInt32)), .val (.int (p5 &&& (3 : Int32))), .val (.int (((p5.toUInt32 >>> ((2 : Int32) &&& 31).toUInt32).toInt32) &&& (3 : Int32))), .val (.ref b101), .val (.ref b110), .val (.int f_149), .val (.int f_150), .val (.int f_151), .val (.int f_152), .val (.int f_153), .val (.int f_154), .val (.int ex_155), .val (.int (0 : Int32)), .unset]) rfl (XS.aload X156.here hx rfl (hb hby at_273) rfl rfl (XS.aload X156.here hx rfl (hb hby at_275) rfl rfl k))) ?_
                  show G (T156.setTop (mkF m 277 #[.val (.int p0), .val (.int p1), .val (.int p2), .val (.int p3), .val (.long p4), .second, .val (.int p5), .val (.int (p4.toInt32)), .val (.int (((p4.toUInt64 >>> ((32 : Int32) &&& 0x3f).toInt64.toUInt64).toInt64).toInt32)), .val (.int (p5 &&& (3 : Int32))), .val (.int (((p5.toUInt32 >>> ((2 : Int32) &&& 31).toUInt32).toInt32) &&& (3 : Int32))), .val (.ref b101), .val (.ref b110), .val (.int f_149), .val (.int f_150), .val (.int f_151), .val (.int f_152), .val (.int f_153), .val (.int f_154), .val (.int ex_155), .val (.int (0 : Int32)), .unset] [(.ref b101), (.ref b110)]))
                  obtain ⟨rv176, T176, L176, X176, q176, st176⟩ := own_vi X156 hx hZ (y := (⟨"com/example/hatoyama/hatoyama/IndexSet", "intersects", "(Lcom/example/hatoyama/hatoyama/IndexSet;)Z"⟩ : MethodName)) (z := (⟨"com/example/hatoyama/hatoyama/IndexSet", "intersects", "(Lcom/example/hatoyama/hatoyama/IndexSet;)Z"⟩ : MethodName)) hown (ow hw 65 rfl) (ow hw 66 rfl) (ow hw 68 rfl) (ow hw 67 rfl) (Or.inl rfl) (by decide) (own_bkN (W := 0) (rm13 l Z a0 hw nk kk0 O_nk V_nk nw kw0 O_nw V_nw [] b110 b101 ps_144 ps_131 T136.heap n0 (Nat.le_trans Z0 Z159) f148 F158 p145 p132) hZ (ow hw 69 rfl) (ow hw 2 rfl) (by decide) (by decide)) e156 f147 (g := (mkF m 277 #[.val (.int p0), .val (.int p1), .val (.int p2), .val (.int p3), .val (.long p4), .second, .val (.int p5), .val (.int (p4.toInt32)), .val (.int (((p4.toUInt64 >>> ((32 : Int32) &&& 0x3f).toInt64.toUInt64).toInt64).toInt32)), .val (.int (p5 &&& (3 : Int32))), .val (.int (((p5.toUInt32 >>> ((2 : Int32) &&& 31).toUInt32).toInt32) &&& (3 : Int32))), .val (.ref b101), .val (.ref b110), .val (.int f_149), .val (.int f_150), .val (.int f_151), .val (.int f_152), .val (.int f_153), .val (.int f_154), .val (.int ex_155), .val (.int (0 : Int32)), .unset] [(.ref b101), (.ref b110)])) rfl (by rw [hml]; rfl) (argsL := [(.ref b101)]) (rest := []) rfl (lenOf own_pd8 rfl) rfl (by show 2 * 0 + _ ≤ _; exact Nat.le_of_eq rfl) (hb hby at_277) (by decide) (by decide)
                  obtain ⟨Nq176, e176, q176⟩ := q176
                  have N176 := Fr.app N156 Nq176
                  rcases q176 with ⟨rfl, p177⟩ | ⟨rfl, p178⟩
                  · refine go _ _ (st176) ?_
                    show G (T176.setTop (mkF m 280 #[.val (.int p0), .val (.int p1), .val (.int p2), .val (.int p3), .val (.long p4), .second, .val (.int p5), .val (.int (p4.toInt32)), .val (.int (((p4.toUInt64 >>> ((32 : Int32) &&& 0x3f).toInt64.toUInt64).toInt64).toInt32)), .val (.int (p5 &&& (3 : Int32))), .val (.int (((p5.toUInt32 >>> ((2 : Int32) &&& 31).toUInt32).toInt32) &&& (3 : Int32))), .val (.ref b101), .val (.ref b110), .val (.int f_149), .val (.int f_150), .val (.int f_151), .val (.int f_152), .val (.int f_153), .val (.int f_154), .val (.int ex_155), .val (.int (0 : Int32)), .unset] [(.int (1 : Int32))]))
                    refine go _ _ (fun _ k => XS.istore X176.here hx rfl (hb hby at_280) rfl (l' := #[.val (.int p0), .val (.int p1), .val (.int p2), .val (.int p3), .val (.long p4), .second, .val (.int p5), .val (.int (p4.toInt32)), .val (.int (((p4.toUInt64 >>> ((32 : Int32) &&& 0x3f).toInt64.toUInt64).toInt64).toInt32)), .val (.int (p5 &&& (3 : Int32))), .val (.int (((p5.toUInt32 >>> ((2 : Int32) &&& 31).toUInt32).toInt32) &&& (3 : Int32))), .val (.ref b101), .val (.ref b110), .val (.int f_149), .val (.int f_150), .val (.int f_151), .val (.int f_152), .val (.int f_153), .val (.int f_154), .val (.int ex_155), .val (.int (0 : Int32)), .val (.int (1 : Int32))]) rfl (XS.iload X176.here hx rfl (hb hby at_282) rfl (XS.iload X176.here hx rfl (hb hby at_284) rfl k))) ?_
                    show G (T176.setTop (mkF m 286 #[.val (.int p0), .val (.int p1), .val (.int p2), .val (.int p3), .val (.long p4), .second, .val (.int p5), .val (.int (p4.toInt32)), .val (.int (((p4.toUInt64 >>> ((32 : Int32) &&& 0x3f).toInt64.toUInt64).toInt64).toInt32)), .val (.int (p5 &&& (3 : Int32))), .val (.int (((p5.toUInt32 >>> ((2 : Int32) &&& 31).toUInt32).toInt32) &&& (3 : Int32))), .val (.ref b101), .val (.ref b110), .val (.int f_149), .val (.int f_150), .val (.int f_151), .val (.int f_152), .val (.int f_153), .val (.int f_154), .val (.int ex_155), .val (.int (0 : Int32)), .val (.int (1 : Int32))] [(.int ex_155), (.int (0 : Int32))]))
                    refine go _ _ (fun _ k => XS.icmpNo X176.here hx rfl (hb hby at_286) rfl (teq (own_is0 pj155_ex0 (fun y => p162 ((own_Cyes p132 p133 p146).mpr y)))).2 k) ?_
                    show G (T176.setTop (mkF m 289 #[.val (.int p0), .val (.int p1), .val (.int p2), .val (.int p3), .val (.long p4), .second, .val (.int p5), .val (.int (p4.toInt32)), .val (.int (((p4.toUInt64 >>> ((32 : Int32) &&& 0x3f).toInt64.toUInt64).toInt64).toInt32)), .val (.int (p5 &&& (3 : Int32))), .val (.int (((p5.toUInt32 >>> ((2 : Int32) &&& 31).toUInt32).toInt32) &&& (3 : Int32))), .val (.ref b101), .val (.ref b110), .val (.int f_149), .val (.int f_150), .val (.int f_151), .val (.int f_152), .val (.int f_153), .val (.int f_154), .val (.int ex_155), .val (.int (0 : Int32)), .val (.int (1 : Int32))] []))
                    refine go _ _ (fun _ k => XS.iload X176.here hx rfl (hb hby at_289) rfl (XS.iload X176.here hx rfl (hb hby at_291) rfl k)) ?_
                    show G (T176.setTop (mkF m 293 #[.val (.int p0), .val (.int p1), .val (.int p2), .val (.int p3), .val (.long p4), .second, .val (.int p5), .val (.int (p4.toInt32)), .val (.int (((p4.toUInt64 >>> ((32 : Int32) &&& 0x3f).toInt64.toUInt64).toInt64).toInt32)), .val (.int (p5 &&& (3 : Int32))), .val (.int (((p5.toUInt32 >>> ((2 : Int32) &&& 31).toUInt32).toInt32) &&& (3 : Int32))), .val (.ref b101), .val (.ref b110), .val (.int f_149), .val (.int f_150), .val (.int f_151), .val (.int f_152), .val (.int f_153), .val (.int f_154), .val (.int ex_155), .val (.int (0 : Int32)), .val (.int (1 : Int32))] [(.int ex_155), (.int (1 : Int32))]))
                    refine go _ _ (fun _ k => XS.icmpNo X176.here hx rfl (hb hby at_293) rfl (teq (own_is1 pj155_ex0 ((own_yes_symm.trans (own_Cyes p132 p133 p146)).mp p177))).2 k) ?_
                    show G (T176.setTop (mkF m 296 #[.val (.int p0), .val (.int p1), .val (.int p2), .val (.int p3), .val (.long p4), .second, .val (.int p5), .val (.int (p4.toInt32)), .val (.int (((p4.toUInt64 >>> ((32 : Int32) &&& 0x3f).toInt64.toUInt64).toInt64).toInt32)), .val (.int (p5 &&& (3 : Int32))), .val (.int (((p5.toUInt32 >>> ((2 : Int32) &&& 31).toUInt32).toInt32) &&& (3 : Int32))), .val (.ref b101), .val (.ref b110), .val (.int f_149), .val (.int f_150), .val (.int f_151), .val (.int f_152), .val (.int f_153), .val (.int f_154), .val (.int ex_155), .val (.int (0 : Int32)), .val (.int (1 : Int32))] []))
                    refine go _ _ (fun _ k => XS.iconst X176.here hx rfl (hb hby at_296) k) ?_
                    show G (T176.setTop (mkF m 297 #[.val (.int p0), .val (.int p1), .val (.int p2), .val (.int p3), .val (.long p4), .second, .val (.int p5), .val (.int (p4.toInt32)), .val (.int (((p4.toUInt64 >>> ((32 : Int32) &&& 0x3f).toInt64.toUInt64).toInt64).toInt32)), .val (.int (p5 &&& (3 : Int32))), .val (.int (((p5.toUInt32 >>> ((2 : Int32) &&& 31).toUInt32).toInt32) &&& (3 : Int32))), .val (.ref b101), .val (.ref b110), .val (.int f_149), .val (.int f_150), .val (.int f_151), .val (.int f_152), .val (.int f_153), .val (.int f_154), .val (.int ex_155), .val (.int (0 : Int32)), .val (.int (1 : Int32))] [(.int (1 : Int32))]))
                    refine go _ _ (fun _ k => XS.goto X176.here hx rfl (pc0 := 297) (pc' := 301) rfl (hb hby at_297) (by decide) (by decide) k) ?_
                    show G (T176.setTop (mkF m 301 #[.val (.int p0), .val (.int p1), .val (.int p2), .val (.int p3), .val (.long p4), .second, .val (.int p5), .val (.int (p4.toInt32)), .val (.int (((p4.toUInt64 >>> ((32 : Int32) &&& 0x3f).toInt64.toUInt64).toInt64).toInt32)), .val (.int (p5 &&& (3 : Int32))), .val (.int (((p5.toUInt32 >>> ((2 : Int32) &&& 31).toUInt32).toInt32) &&& (3 : Int32))), .val (.ref b101), .val (.ref b110), .val (.int f_149), .val (.int f_150), .val (.int f_151), .val (.int f_152), .val (.int f_153), .val (.int f_154), .val (.int ex_155), .val (.int (0 : Int32)), .val (.int (1 : Int32))] [(.int (1 : Int32))]))
                    have K179 : Keep h0 T102.heap [] := K103.trans Kp102 (allS (Or.inr (Nat.le_of_eq g101.symm)) all0)
                    have K180 : Keep h0 h110 [] := K179.ext E110
                    have K181 : Keep h0 T111.heap [] := K180.trans Kp111 (allS (Or.inr (Nat.le_trans Z115 (Nat.le_of_eq g110.symm))) all0)
                    have K182 : Keep h0 T121.heap [] := K181.trans Kp121 (allS (Or.inr (Nat.le_of_eq g101.symm)) all0)
                    have K183 : Keep h0 T136.heap [] := K182.trans Kp136 (allS (Or.inr (Nat.le_trans Z115 (Nat.le_of_eq g110.symm))) all0)
                    refine fin T176 _ _ _ (some (.int (1 : Int32))) X176 (fun q => nomatch q) (by decide) (by decide) (by rw [e176]; exact ⟨N176, K183, rfl⟩) _ (own_retN X176 hx (z := (1 : Int32)) (t := .boolean) hret (by simp) (hb hby at_301))
                  · refine go _ _ (st176) ?_
                    show G (T176.setTop (mkF m 280 #[.val (.int p0), .val (.int p1), .val (.int p2), .val (.int p3), .val (.long p4), .second, .val (.int p5), .val (.int (p4.toInt32)), .val (.int (((p4.toUInt64 >>> ((32 : Int32) &&& 0x3f).toInt64.toUInt64).toInt64).toInt32)), .val (.int (p5 &&& (3 : Int32))), .val (.int (((p5.toUInt32 >>> ((2 : Int32) &&& 31).toUInt32).toInt32) &&& (3 : Int32))), .val (.ref b101), .val (.ref b110), .val (.int f_149), .val (.int f_150), .val (.int f_151), .val (.int f_152), .val (.int f_153), .val (.int f_154), .val (.int ex_155), .val (.int (0 : Int32)), .unset] [(.int (0 : Int32))]))
                    refine go _ _ (fun _ k => XS.istore X176.here hx rfl (hb hby at_280) rfl (l' := #[.val (.int p0), .val (.int p1), .val (.int p2), .val (.int p3), .val (.long p4), .second, .val (.int p5), .val (.int (p4.toInt32)), .val (.int (((p4.toUInt64 >>> ((32 : Int32) &&& 0x3f).toInt64.toUInt64).toInt64).toInt32)), .val (.int (p5 &&& (3 : Int32))), .val (.int (((p5.toUInt32 >>> ((2 : Int32) &&& 31).toUInt32).toInt32) &&& (3 : Int32))), .val (.ref b101), .val (.ref b110), .val (.int f_149), .val (.int f_150), .val (.int f_151), .val (.int f_152), .val (.int f_153), .val (.int f_154), .val (.int ex_155), .val (.int (0 : Int32)), .val (.int (0 : Int32))]) rfl (XS.iload X176.here hx rfl (hb hby at_282) rfl (XS.iload X176.here hx rfl (hb hby at_284) rfl k))) ?_
                    show G (T176.setTop (mkF m 286 #[.val (.int p0), .val (.int p1), .val (.int p2), .val (.int p3), .val (.long p4), .second, .val (.int p5), .val (.int (p4.toInt32)), .val (.int (((p4.toUInt64 >>> ((32 : Int32) &&& 0x3f).toInt64.toUInt64).toInt64).toInt32)), .val (.int (p5 &&& (3 : Int32))), .val (.int (((p5.toUInt32 >>> ((2 : Int32) &&& 31).toUInt32).toInt32) &&& (3 : Int32))), .val (.ref b101), .val (.ref b110), .val (.int f_149), .val (.int f_150), .val (.int f_151), .val (.int f_152), .val (.int f_153), .val (.int f_154), .val (.int ex_155), .val (.int (0 : Int32)), .val (.int (0 : Int32))] [(.int ex_155), (.int (0 : Int32))]))
                    refine go _ _ (fun _ k => XS.icmpNo X176.here hx rfl (hb hby at_286) rfl (teq (own_is0 pj155_ex0 (fun y => p162 ((own_Cyes p132 p133 p146).mpr y)))).2 k) ?_
                    show G (T176.setTop (mkF m 289 #[.val (.int p0), .val (.int p1), .val (.int p2), .val (.int p3), .val (.long p4), .second, .val (.int p5), .val (.int (p4.toInt32)), .val (.int (((p4.toUInt64 >>> ((32 : Int32) &&& 0x3f).toInt64.toUInt64).toInt64).toInt32)), .val (.int (p5 &&& (3 : Int32))), .val (.int (((p5.toUInt32 >>> ((2 : Int32) &&& 31).toUInt32).toInt32) &&& (3 : Int32))), .val (.ref b101), .val (.ref b110), .val (.int f_149), .val (.int f_150), .val (.int f_151), .val (.int f_152), .val (.int f_153), .val (.int f_154), .val (.int ex_155), .val (.int (0 : Int32)), .val (.int (0 : Int32))] []))
                    refine go _ _ (fun _ k => XS.iload X176.here hx rfl (hb hby at_289) rfl (XS.iload X176.here hx rfl (hb hby at_291) rfl k)) ?_
                    show G (T176.setTop (mkF m 293 #[.val (.int p0), .val (.int p1), .val (.int p2), .val (.int p3), .val (.long p4), .second, .val (.int p5), .val (.int (p4.toInt32)), .val (.int (((p4.toUInt64 >>> ((32 : Int32) &&& 0x3f).toInt64.toUInt64).toInt64).toInt32)), .val (.int (p5 &&& (3 : Int32))), .val (.int (((p5.toUInt32 >>> ((2 : Int32) &&& 31).toUInt32).toInt32) &&& (3 : Int32))), .val (.ref b101), .val (.ref b110), .val (.int f_149), .val (.int f_150), .val (.int f_151), .val (.int f_152), .val (.int f_153), .val (.int f_154), .val (.int ex_155), .val (.int (0 : Int32)), .val (.int (0 : Int32))] [(.int ex_155), (.int (0 : Int32))]))
                    refine go _ _ (fun _ k => XS.icmpNo X176.here hx rfl (hb hby at_293) rfl (teq (own_is0 pj155_ex0 (fun y => p178 ((own_yes_symm.trans (own_Cyes p132 p133 p146)).mpr y)))).2 k) ?_
                    show G (T176.setTop (mkF m 296 #[.val (.int p0), .val (.int p1), .val (.int p2), .val (.int p3), .val (.long p4), .second, .val (.int p5), .val (.int (p4.toInt32)), .val (.int (((p4.toUInt64 >>> ((32 : Int32) &&& 0x3f).toInt64.toUInt64).toInt64).toInt32)), .val (.int (p5 &&& (3 : Int32))), .val (.int (((p5.toUInt32 >>> ((2 : Int32) &&& 31).toUInt32).toInt32) &&& (3 : Int32))), .val (.ref b101), .val (.ref b110), .val (.int f_149), .val (.int f_150), .val (.int f_151), .val (.int f_152), .val (.int f_153), .val (.int f_154), .val (.int ex_155), .val (.int (0 : Int32)), .val (.int (0 : Int32))] []))
                    refine go _ _ (fun _ k => XS.iconst X176.here hx rfl (hb hby at_296) k) ?_
                    show G (T176.setTop (mkF m 297 #[.val (.int p0), .val (.int p1), .val (.int p2), .val (.int p3), .val (.long p4), .second, .val (.int p5), .val (.int (p4.toInt32)), .val (.int (((p4.toUInt64 >>> ((32 : Int32) &&& 0x3f).toInt64.toUInt64).toInt64).toInt32)), .val (.int (p5 &&& (3 : Int32))), .val (.int (((p5.toUInt32 >>> ((2 : Int32) &&& 31).toUInt32).toInt32) &&& (3 : Int32))), .val (.ref b101), .val (.ref b110), .val (.int f_149), .val (.int f_150), .val (.int f_151), .val (.int f_152), .val (.int f_153), .val (.int f_154), .val (.int ex_155), .val (.int (0 : Int32)), .val (.int (0 : Int32))] [(.int (1 : Int32))]))
                    refine go _ _ (fun _ k => XS.goto X176.here hx rfl (pc0 := 297) (pc' := 301) rfl (hb hby at_297) (by decide) (by decide) k) ?_
                    show G (T176.setTop (mkF m 301 #[.val (.int p0), .val (.int p1), .val (.int p2), .val (.int p3), .val (.long p4), .second, .val (.int p5), .val (.int (p4.toInt32)), .val (.int (((p4.toUInt64 >>> ((32 : Int32) &&& 0x3f).toInt64.toUInt64).toInt64).toInt32)), .val (.int (p5 &&& (3 : Int32))), .val (.int (((p5.toUInt32 >>> ((2 : Int32) &&& 31).toUInt32).toInt32) &&& (3 : Int32))), .val (.ref b101), .val (.ref b110), .val (.int f_149), .val (.int f_150), .val (.int f_151), .val (.int f_152), .val (.int f_153), .val (.int f_154), .val (.int ex_155), .val (.int (0 : Int32)), .val (.int (0 : Int32))] [(.int (1 : Int32))]))
                    have K184 : Keep h0 T102.heap [] := K103.trans Kp102 (allS (Or.inr (Nat.le_of_eq g101.symm)) all0)
                    have K185 : Keep h0 h110 [] := K184.ext E110
                    have K186 : Keep h0 T111.heap [] := K185.trans Kp111 (allS (Or.inr (Nat.le_trans Z115 (Nat.le_of_eq g110.symm))) all0)
                    have K187 : Keep h0 T121.heap [] := K186.trans Kp121 (allS (Or.inr (Nat.le_of_eq g101.symm)) all0)
                    have K188 : Keep h0 T136.heap [] := K187.trans Kp136 (allS (Or.inr (Nat.le_trans Z115 (Nat.le_of_eq g110.symm))) all0)
                    refine fin T176 _ _ _ (some (.int (1 : Int32))) X176 (fun q => nomatch q) (by decide) (by decide) (by rw [e176]; exact ⟨N176, K188, rfl⟩) _ (own_retN X176 hx (z := (1 : Int32)) (t := .boolean) hret (by simp) (hb hby at_301))
              refine go _ _ (fun _ k => XS.iload X154.here hx rfl (hb hby at_143) rfl (XS.iloadN X154.here hx rfl (hb hby at_145) rfl (XS.iload X154.here hx rfl (hb hby at_146) rfl (XS.iloadN X154.here hx rfl (hb hby at_148) rfl k)))) ?_
              show G (T154.setTop (mkF m 149 #[.val (.int p0), .val (.int p1), .val (.int p2), .val (.int p3), .val (.long p4), .second, .val (.int p5), .val (.int (p4.toInt32)), .val (.int (((p4.toUInt64 >>> ((32 : Int32) &&& 0x3f).toInt64.toUInt64).toInt64).toInt32)), .val (.int (p5 &&& (3 : Int32))), .val (.int (((p5.toUInt32 >>> ((2 : Int32) &&& 31).toUInt32).toInt32) &&& (3 : Int32))), .val (.ref b101), .val (.ref b110), .val (.int f_149), .val (.int f_150), .val (.int f_151), .val (.int f_152), .val (.int f_153), .val (.int f_154), .unset, .unset, .unset] [(.int p2), (.int f_152), (.int p0), (.int f_149)]))
              have Z190 : h0.size ≤ T136.heap.size := Nat.le_trans Z143 Kp136.1
              obtain ⟨rv189, T189, L189, X189, q189, st189⟩ := own_st X154 hx hZ (y := (⟨"com/example/hatoyama/hatoyama/IndexSetIntersectsPinLaw", "pair", "(ZIZI)Z"⟩ : MethodName)) hown (ow hw 62 rfl) (ow hw 63 rfl) (ow hw 19 rfl) (ow hw 64 rfl) (by decide) (own_bkN (W := 0) (rm12 l Z a0 hw nk kk0 O_nk V_nk nw kw0 O_nw V_nw [] f_149 p0 f_152 p2 T136.heap n0 (Nat.le_trans Z0 Z190)) hZ (ow hw 64 rfl) (ow hw 19 rfl) (by decide) (by decide)) e154 (g := (mkF m 149 #[.val (.int p0), .val (.int p1), .val (.int p2), .val (.int p3), .val (.long p4), .second, .val (.int p5), .val (.int (p4.toInt32)), .val (.int (((p4.toUInt64 >>> ((32 : Int32) &&& 0x3f).toInt64.toUInt64).toInt64).toInt32)), .val (.int (p5 &&& (3 : Int32))), .val (.int (((p5.toUInt32 >>> ((2 : Int32) &&& 31).toUInt32).toInt32) &&& (3 : Int32))), .val (.ref b101), .val (.ref b110), .val (.int f_149), .val (.int f_150), .val (.int f_151), .val (.int f_152), .val (.int f_153), .val (.int f_154), .unset, .unset, .unset] [(.int p2), (.int f_152), (.int p0), (.int f_149)])) rfl (by rw [hml]; rfl) (argsL := [(.int f_149), (.int p0), (.int f_152), (.int p2)]) (rest := []) rfl (lenOf own_pd9 rfl) rfl (by show 2 * 0 + _ ≤ _; exact Nat.le_of_eq rfl) (hb hby at_149) (by decide) (by decide)
              obtain ⟨Nq189, e189, q189⟩ := q189
              have N189 := Fr.app N154 Nq189
              rcases q189 with ⟨rfl, p191, p192, p193⟩ | ⟨rfl, p194⟩
              · refine go _ _ (st189) ?_
                show G (T189.setTop (mkF m 152 #[.val (.int p0), .val (.int p1), .val (.int p2), .val (.int p3), .val (.long p4), .second, .val (.int p5), .val (.int (p4.toInt32)), .val (.int (((p4.toUInt64 >>> ((32 : Int32) &&& 0x3f).toInt64.toUInt64).toInt64).toInt32)), .val (.int (p5 &&& (3 : Int32))), .val (.int (((p5.toUInt32 >>> ((2 : Int32) &&& 31).toUInt32).toInt32) &&& (3 : Int32))), .val (.ref b101), .val (.ref b110), .val (.int f_149), .val (.int f_150), .val (.int f_151), .val (.int f_152), .val (.int f_153), .val (.int f_154), .unset, .unset, .unset] [(.int (1 : Int32))]))
                refine go _ _ (fun _ k => XS.ifYes X189.here hx rfl (pc0 := 152) (pc' := 257) rfl (hb hby at_152) rfl (by decide) (by decide) (by decide) k) ?_
                show G (T189.setTop (mkF m 257 #[.val (.int p0), .val (.int p1), .val (.int p2), .val (.int p3), .val (.long p4), .second, .val (.int p5), .val (.int (p4.toInt32)), .val (.int (((p4.toUInt64 >>> ((32 : Int32) &&& 0x3f).toInt64.toUInt64).toInt64).toInt32)), .val (.int (p5 &&& (3 : Int32))), .val (.int (((p5.toUInt32 >>> ((2 : Int32) &&& 31).toUInt32).toInt32) &&& (3 : Int32))), .val (.ref b101), .val (.ref b110), .val (.int f_149), .val (.int f_150), .val (.int f_151), .val (.int f_152), .val (.int f_153), .val (.int f_154), .unset, .unset, .unset] []))
                refine go _ _ (fun _ k => XS.iconst X189.here hx rfl (hb hby at_257) k) ?_
                show G (T189.setTop (mkF m 258 #[.val (.int p0), .val (.int p1), .val (.int p2), .val (.int p3), .val (.long p4), .second, .val (.int p5), .val (.int (p4.toInt32)), .val (.int (((p4.toUInt64 >>> ((32 : Int32) &&& 0x3f).toInt64.toUInt64).toInt64).toInt32)), .val (.int (p5 &&& (3 : Int32))), .val (.int (((p5.toUInt32 >>> ((2 : Int32) &&& 31).toUInt32).toInt32) &&& (3 : Int32))), .val (.ref b101), .val (.ref b110), .val (.int f_149), .val (.int f_150), .val (.int f_151), .val (.int f_152), .val (.int f_153), .val (.int f_154), .unset, .unset, .unset] [(.int (1 : Int32))]))
                refine go _ _ (fun _ k => XS.goto X189.here hx rfl (pc0 := 258) (pc' := 262) rfl (hb hby at_258) (by decide) (by decide) k) ?_
                show G (T189.setTop (mkF m 262 #[.val (.int p0), .val (.int p1), .val (.int p2), .val (.int p3), .val (.long p4), .second, .val (.int p5), .val (.int (p4.toInt32)), .val (.int (((p4.toUInt64 >>> ((32 : Int32) &&& 0x3f).toInt64.toUInt64).toInt64).toInt32)), .val (.int (p5 &&& (3 : Int32))), .val (.int (((p5.toUInt32 >>> ((2 : Int32) &&& 31).toUInt32).toInt32) &&& (3 : Int32))), .val (.ref b101), .val (.ref b110), .val (.int f_149), .val (.int f_150), .val (.int f_151), .val (.int f_152), .val (.int f_153), .val (.int f_154), .unset, .unset, .unset] [(.int (1 : Int32))]))
                exact J155 _ _ (X189.more (by decide) (by decide)) e189 N189 (1 : Int32) (Or.inl ⟨rfl, own_some (own_Lm.mpr (Or.inl ⟨own_isT pj149_f0 p191, rfl⟩)) (own_Lm.mpr (Or.inl ⟨own_isT pj152_f0 p192, p193⟩))⟩)
              · refine go _ _ (st189) ?_
                show G (T189.setTop (mkF m 152 #[.val (.int p0), .val (.int p1), .val (.int p2), .val (.int p3), .val (.long p4), .second, .val (.int p5), .val (.int (p4.toInt32)), .val (.int (((p4.toUInt64 >>> ((32 : Int32) &&& 0x3f).toInt64.toUInt64).toInt64).toInt32)), .val (.int (p5 &&& (3 : Int32))), .val (.int (((p5.toUInt32 >>> ((2 : Int32) &&& 31).toUInt32).toInt32) &&& (3 : Int32))), .val (.ref b101), .val (.ref b110), .val (.int f_149), .val (.int f_150), .val (.int f_151), .val (.int f_152), .val (.int f_153), .val (.int f_154), .unset, .unset, .unset] [(.int (0 : Int32))]))
                refine go _ _ (fun _ k => XS.ifNo X189.here hx rfl (hb hby at_152) rfl (by decide) k) ?_
                show G (T189.setTop (mkF m 155 #[.val (.int p0), .val (.int p1), .val (.int p2), .val (.int p3), .val (.long p4), .second, .val (.int p5), .val (.int (p4.toInt32)), .val (.int (((p4.toUInt64 >>> ((32 : Int32) &&& 0x3f).toInt64.toUInt64).toInt64).toInt32)), .val (.int (p5 &&& (3 : Int32))), .val (.int (((p5.toUInt32 >>> ((2 : Int32) &&& 31).toUInt32).toInt32) &&& (3 : Int32))), .val (.ref b101), .val (.ref b110), .val (.int f_149), .val (.int f_150), .val (.int f_151), .val (.int f_152), .val (.int f_153), .val (.int f_154), .unset, .unset, .unset] []))
                refine go _ _ (fun _ k => XS.iload X189.here hx rfl (hb hby at_155) rfl (XS.iloadN X189.here hx rfl (hb hby at_157) rfl (XS.iload X189.here hx rfl (hb hby at_158) rfl (XS.iloadN X189.here hx rfl (hb hby at_160) rfl k)))) ?_
                show G (T189.setTop (mkF m 161 #[.val (.int p0), .val (.int p1), .val (.int p2), .val (.int p3), .val (.long p4), .second, .val (.int p5), .val (.int (p4.toInt32)), .val (.int (((p4.toUInt64 >>> ((32 : Int32) &&& 0x3f).toInt64.toUInt64).toInt64).toInt32)), .val (.int (p5 &&& (3 : Int32))), .val (.int (((p5.toUInt32 >>> ((2 : Int32) &&& 31).toUInt32).toInt32) &&& (3 : Int32))), .val (.ref b101), .val (.ref b110), .val (.int f_149), .val (.int f_150), .val (.int f_151), .val (.int f_152), .val (.int f_153), .val (.int f_154), .unset, .unset, .unset] [(.int p3), (.int f_153), (.int p0), (.int f_149)]))
                obtain ⟨rv195, T195, L195, X195, q195, st195⟩ := own_st X189 hx hZ (y := (⟨"com/example/hatoyama/hatoyama/IndexSetIntersectsPinLaw", "pair", "(ZIZI)Z"⟩ : MethodName)) hown (ow hw 62 rfl) (ow hw 63 rfl) (ow hw 19 rfl) (ow hw 64 rfl) (by decide) (own_bkN (W := 0) (rm12 l Z a0 hw nk kk0 O_nk V_nk nw kw0 O_nw V_nw [] f_149 p0 f_153 p3 T136.heap n0 (Nat.le_trans Z0 Z190)) hZ (ow hw 64 rfl) (ow hw 19 rfl) (by decide) (by decide)) e189 (g := (mkF m 161 #[.val (.int p0), .val (.int p1), .val (.int p2), .val (.int p3), .val (.long p4), .second, .val (.int p5), .val (.int (p4.toInt32)), .val (.int (((p4.toUInt64 >>> ((32 : Int32) &&& 0x3f).toInt64.toUInt64).toInt64).toInt32)), .val (.int (p5 &&& (3 : Int32))), .val (.int (((p5.toUInt32 >>> ((2 : Int32) &&& 31).toUInt32).toInt32) &&& (3 : Int32))), .val (.ref b101), .val (.ref b110), .val (.int f_149), .val (.int f_150), .val (.int f_151), .val (.int f_152), .val (.int f_153), .val (.int f_154), .unset, .unset, .unset] [(.int p3), (.int f_153), (.int p0), (.int f_149)])) rfl (by rw [hml]; rfl) (argsL := [(.int f_149), (.int p0), (.int f_153), (.int p3)]) (rest := []) rfl (lenOf own_pd9 rfl) rfl (by show 2 * 0 + _ ≤ _; exact Nat.le_of_eq rfl) (hb hby at_161) (by decide) (by decide)
                obtain ⟨Nq195, e195, q195⟩ := q195
                have N195 := Fr.app N189 Nq195
                rcases q195 with ⟨rfl, p196, p197, p198⟩ | ⟨rfl, p199⟩
                · refine go _ _ (st195) ?_
                  show G (T195.setTop (mkF m 164 #[.val (.int p0), .val (.int p1), .val (.int p2), .val (.int p3), .val (.long p4), .second, .val (.int p5), .val (.int (p4.toInt32)), .val (.int (((p4.toUInt64 >>> ((32 : Int32) &&& 0x3f).toInt64.toUInt64).toInt64).toInt32)), .val (.int (p5 &&& (3 : Int32))), .val (.int (((p5.toUInt32 >>> ((2 : Int32) &&& 31).toUInt32).toInt32) &&& (3 : Int32))), .val (.ref b101), .val (.ref b110), .val (.int f_149), .val (.int f_150), .val (.int f_151), .val (.int f_152), .val (.int f_153), .val (.int f_154), .unset, .unset, .unset] [(.int (1 : Int32))]))
                  refine go _ _ (fun _ k => XS.ifYes X195.here hx rfl (pc0 := 164) (pc' := 257) rfl (hb hby at_164) rfl (by decide) (by decide) (by decide) k) ?_
                  show G (T195.setTop (mkF m 257 #[.val (.int p0), .val (.int p1), .val (.int p2), .val (.int p3), .val (.long p4), .second, .val (.int p5), .val (.int (p4.toInt32)), .val (.int (((p4.toUInt64 >>> ((32 : Int32) &&& 0x3f).toInt64.toUInt64).toInt64).toInt32)), .val (.int (p5 &&& (3 : Int32))), .val (.int (((p5.toUInt32 >>> ((2 : Int32) &&& 31).toUInt32).toInt32) &&& (3 : Int32))), .val (.ref b101), .val (.ref b110), .val (.int f_149), .val (.int f_150), .val (.int f_151), .val (.int f_152), .val (.int f_153), .val (.int f_154), .unset, .unset, .unset] []))
                  refine go _ _ (fun _ k => XS.iconst X195.here hx rfl (hb hby at_257) k) ?_
                  show G (T195.setTop (mkF m 258 #[.val (.int p0), .val (.int p1), .val (.int p2), .val (.int p3), .val (.long p4), .second, .val (.int p5), .val (.int (p4.toInt32)), .val (.int (((p4.toUInt64 >>> ((32 : Int32) &&& 0x3f).toInt64.toUInt64).toInt64).toInt32)), .val (.int (p5 &&& (3 : Int32))), .val (.int (((p5.toUInt32 >>> ((2 : Int32) &&& 31).toUInt32).toInt32) &&& (3 : Int32))), .val (.ref b101), .val (.ref b110), .val (.int f_149), .val (.int f_150), .val (.int f_151), .val (.int f_152), .val (.int f_153), .val (.int f_154), .unset, .unset, .unset] [(.int (1 : Int32))]))
                  refine go _ _ (fun _ k => XS.goto X195.here hx rfl (pc0 := 258) (pc' := 262) rfl (hb hby at_258) (by decide) (by decide) k) ?_
                  show G (T195.setTop (mkF m 262 #[.val (.int p0), .val (.int p1), .val (.int p2), .val (.int p3), .val (.long p4), .second, .val (.int p5), .val (.int (p4.toInt32)), .val (.int (((p4.toUInt64 >>> ((32 : Int32) &&& 0x3f).toInt64.toUInt64).toInt64).toInt32)), .val (.int (p5 &&& (3 : Int32))), .val (.int (((p5.toUInt32 >>> ((2 : Int32) &&& 31).toUInt32).toInt32) &&& (3 : Int32))), .val (.ref b101), .val (.ref b110), .val (.int f_149), .val (.int f_150), .val (.int f_151), .val (.int f_152), .val (.int f_153), .val (.int f_154), .unset, .unset, .unset] [(.int (1 : Int32))]))
                  exact J155 _ _ (X195.more (by decide) (by decide)) e195 N195 (1 : Int32) (Or.inl ⟨rfl, own_some (own_Lm.mpr (Or.inl ⟨own_isT pj149_f0 p196, rfl⟩)) (own_Lm.mpr (Or.inr (Or.inl ⟨own_isT pj153_f0 p197, p198⟩)))⟩)
                · refine go _ _ (st195) ?_
                  show G (T195.setTop (mkF m 164 #[.val (.int p0), .val (.int p1), .val (.int p2), .val (.int p3), .val (.long p4), .second, .val (.int p5), .val (.int (p4.toInt32)), .val (.int (((p4.toUInt64 >>> ((32 : Int32) &&& 0x3f).toInt64.toUInt64).toInt64).toInt32)), .val (.int (p5 &&& (3 : Int32))), .val (.int (((p5.toUInt32 >>> ((2 : Int32) &&& 31).toUInt32).toInt32) &&& (3 : Int32))), .val (.ref b101), .val (.ref b110), .val (.int f_149), .val (.int f_150), .val (.int f_151), .val (.int f_152), .val (.int f_153), .val (.int f_154), .unset, .unset, .unset] [(.int (0 : Int32))]))
                  refine go _ _ (fun _ k => XS.ifNo X195.here hx rfl (hb hby at_164) rfl (by decide) k) ?_
                  show G (T195.setTop (mkF m 167 #[.val (.int p0), .val (.int p1), .val (.int p2), .val (.int p3), .val (.long p4), .second, .val (.int p5), .val (.int (p4.toInt32)), .val (.int (((p4.toUInt64 >>> ((32 : Int32) &&& 0x3f).toInt64.toUInt64).toInt64).toInt32)), .val (.int (p5 &&& (3 : Int32))), .val (.int (((p5.toUInt32 >>> ((2 : Int32) &&& 31).toUInt32).toInt32) &&& (3 : Int32))), .val (.ref b101), .val (.ref b110), .val (.int f_149), .val (.int f_150), .val (.int f_151), .val (.int f_152), .val (.int f_153), .val (.int f_154), .unset, .unset, .unset] []))
                  refine go _ _ (fun _ k => XS.iload X195.here hx rfl (hb hby at_167) rfl (XS.iloadN X195.here hx rfl (hb hby at_169) rfl (XS.iload X195.here hx rfl (hb hby at_170) rfl (XS.iload X195.here hx rfl (hb hby at_172) rfl k)))) ?_
                  show G (T195.setTop (mkF m 174 #[.val (.int p0), .val (.int p1), .val (.int p2), .val (.int p3), .val (.long p4), .second, .val (.int p5), .val (.int (p4.toInt32)), .val (.int (((p4.toUInt64 >>> ((32 : Int32) &&& 0x3f).toInt64.toUInt64).toInt64).toInt32)), .val (.int (p5 &&& (3 : Int32))), .val (.int (((p5.toUInt32 >>> ((2 : Int32) &&& 31).toUInt32).toInt32) &&& (3 : Int32))), .val (.ref b101), .val (.ref b110), .val (.int f_149), .val (.int f_150), .val (.int f_151), .val (.int f_152), .val (.int f_153), .val (.int f_154), .unset, .unset, .unset] [(.int (((p4.toUInt64 >>> ((32 : Int32) &&& 0x3f).toInt64.toUInt64).toInt64).toInt32)), (.int f_154), (.int p0), (.int f_149)]))
                  obtain ⟨rv200, T200, L200, X200, q200, st200⟩ := own_st X195 hx hZ (y := (⟨"com/example/hatoyama/hatoyama/IndexSetIntersectsPinLaw", "pair", "(ZIZI)Z"⟩ : MethodName)) hown (ow hw 62 rfl) (ow hw 63 rfl) (ow hw 19 rfl) (ow hw 64 rfl) (by decide) (own_bkN (W := 0) (rm12 l Z a0 hw nk kk0 O_nk V_nk nw kw0 O_nw V_nw [] f_149 p0 f_154 (((p4.toUInt64 >>> ((32 : Int32) &&& 0x3f).toInt64.toUInt64).toInt64).toInt32) T136.heap n0 (Nat.le_trans Z0 Z190)) hZ (ow hw 64 rfl) (ow hw 19 rfl) (by decide) (by decide)) e195 (g := (mkF m 174 #[.val (.int p0), .val (.int p1), .val (.int p2), .val (.int p3), .val (.long p4), .second, .val (.int p5), .val (.int (p4.toInt32)), .val (.int (((p4.toUInt64 >>> ((32 : Int32) &&& 0x3f).toInt64.toUInt64).toInt64).toInt32)), .val (.int (p5 &&& (3 : Int32))), .val (.int (((p5.toUInt32 >>> ((2 : Int32) &&& 31).toUInt32).toInt32) &&& (3 : Int32))), .val (.ref b101), .val (.ref b110), .val (.int f_149), .val (.int f_150), .val (.int f_151), .val (.int f_152), .val (.int f_153), .val (.int f_154), .unset, .unset, .unset] [(.int (((p4.toUInt64 >>> ((32 : Int32) &&& 0x3f).toInt64.toUInt64).toInt64).toInt32)), (.int f_154), (.int p0), (.int f_149)])) rfl (by rw [hml]; rfl) (argsL := [(.int f_149), (.int p0), (.int f_154), (.int (((p4.toUInt64 >>> ((32 : Int32) &&& 0x3f).toInt64.toUInt64).toInt64).toInt32))]) (rest := []) rfl (lenOf own_pd9 rfl) rfl (by show 2 * 0 + _ ≤ _; exact Nat.le_of_eq rfl) (hb hby at_174) (by decide) (by decide)
                  obtain ⟨Nq200, e200, q200⟩ := q200
                  have N200 := Fr.app N195 Nq200
                  rcases q200 with ⟨rfl, p201, p202, p203⟩ | ⟨rfl, p204⟩
                  · refine go _ _ (st200) ?_
                    show G (T200.setTop (mkF m 177 #[.val (.int p0), .val (.int p1), .val (.int p2), .val (.int p3), .val (.long p4), .second, .val (.int p5), .val (.int (p4.toInt32)), .val (.int (((p4.toUInt64 >>> ((32 : Int32) &&& 0x3f).toInt64.toUInt64).toInt64).toInt32)), .val (.int (p5 &&& (3 : Int32))), .val (.int (((p5.toUInt32 >>> ((2 : Int32) &&& 31).toUInt32).toInt32) &&& (3 : Int32))), .val (.ref b101), .val (.ref b110), .val (.int f_149), .val (.int f_150), .val (.int f_151), .val (.int f_152), .val (.int f_153), .val (.int f_154), .unset, .unset, .unset] [(.int (1 : Int32))]))
                    refine go _ _ (fun _ k => XS.ifYes X200.here hx rfl (pc0 := 177) (pc' := 257) rfl (hb hby at_177) rfl (by decide) (by decide) (by decide) k) ?_
                    show G (T200.setTop (mkF m 257 #[.val (.int p0), .val (.int p1), .val (.int p2), .val (.int p3), .val (.long p4), .second, .val (.int p5), .val (.int (p4.toInt32)), .val (.int (((p4.toUInt64 >>> ((32 : Int32) &&& 0x3f).toInt64.toUInt64).toInt64).toInt32)), .val (.int (p5 &&& (3 : Int32))), .val (.int (((p5.toUInt32 >>> ((2 : Int32) &&& 31).toUInt32).toInt32) &&& (3 : Int32))), .val (.ref b101), .val (.ref b110), .val (.int f_149), .val (.int f_150), .val (.int f_151), .val (.int f_152), .val (.int f_153), .val (.int f_154), .unset, .unset, .unset] []))
                    refine go _ _ (fun _ k => XS.iconst X200.here hx rfl (hb hby at_257) k) ?_
                    show G (T200.setTop (mkF m 258 #[.val (.int p0), .val (.int p1), .val (.int p2), .val (.int p3), .val (.long p4), .second, .val (.int p5), .val (.int (p4.toInt32)), .val (.int (((p4.toUInt64 >>> ((32 : Int32) &&& 0x3f).toInt64.toUInt64).toInt64).toInt32)), .val (.int (p5 &&& (3 : Int32))), .val (.int (((p5.toUInt32 >>> ((2 : Int32) &&& 31).toUInt32).toInt32) &&& (3 : Int32))), .val (.ref b101), .val (.ref b110), .val (.int f_149), .val (.int f_150), .val (.int f_151), .val (.int f_152), .val (.int f_153), .val (.int f_154), .unset, .unset, .unset] [(.int (1 : Int32))]))
                    refine go _ _ (fun _ k => XS.goto X200.here hx rfl (pc0 := 258) (pc' := 262) rfl (hb hby at_258) (by decide) (by decide) k) ?_
                    show G (T200.setTop (mkF m 262 #[.val (.int p0), .val (.int p1), .val (.int p2), .val (.int p3), .val (.long p4), .second, .val (.int p5), .val (.int (p4.toInt32)), .val (.int (((p4.toUInt64 >>> ((32 : Int32) &&& 0x3f).toInt64.toUInt64).toInt64).toInt32)), .val (.int (p5 &&& (3 : Int32))), .val (.int (((p5.toUInt32 >>> ((2 : Int32) &&& 31).toUInt32).toInt32) &&& (3 : Int32))), .val (.ref b101), .val (.ref b110), .val (.int f_149), .val (.int f_150), .val (.int f_151), .val (.int f_152), .val (.int f_153), .val (.int f_154), .unset, .unset, .unset] [(.int (1 : Int32))]))
                    exact J155 _ _ (X200.more (by decide) (by decide)) e200 N200 (1 : Int32) (Or.inl ⟨rfl, own_some (own_Lm.mpr (Or.inl ⟨own_isT pj149_f0 p201, rfl⟩)) (own_Lm.mpr (Or.inr (Or.inr ⟨own_isT pj154_f0 p202, p203⟩)))⟩)
                  · refine go _ _ (st200) ?_
                    show G (T200.setTop (mkF m 177 #[.val (.int p0), .val (.int p1), .val (.int p2), .val (.int p3), .val (.long p4), .second, .val (.int p5), .val (.int (p4.toInt32)), .val (.int (((p4.toUInt64 >>> ((32 : Int32) &&& 0x3f).toInt64.toUInt64).toInt64).toInt32)), .val (.int (p5 &&& (3 : Int32))), .val (.int (((p5.toUInt32 >>> ((2 : Int32) &&& 31).toUInt32).toInt32) &&& (3 : Int32))), .val (.ref b101), .val (.ref b110), .val (.int f_149), .val (.int f_150), .val (.int f_151), .val (.int f_152), .val (.int f_153), .val (.int f_154), .unset, .unset, .unset] [(.int (0 : Int32))]))
                    refine go _ _ (fun _ k => XS.ifNo X200.here hx rfl (hb hby at_177) rfl (by decide) k) ?_
                    show G (T200.setTop (mkF m 180 #[.val (.int p0), .val (.int p1), .val (.int p2), .val (.int p3), .val (.long p4), .second, .val (.int p5), .val (.int (p4.toInt32)), .val (.int (((p4.toUInt64 >>> ((32 : Int32) &&& 0x3f).toInt64.toUInt64).toInt64).toInt32)), .val (.int (p5 &&& (3 : Int32))), .val (.int (((p5.toUInt32 >>> ((2 : Int32) &&& 31).toUInt32).toInt32) &&& (3 : Int32))), .val (.ref b101), .val (.ref b110), .val (.int f_149), .val (.int f_150), .val (.int f_151), .val (.int f_152), .val (.int f_153), .val (.int f_154), .unset, .unset, .unset] []))
                    refine go _ _ (fun _ k => XS.iload X200.here hx rfl (hb hby at_180) rfl (XS.iloadN X200.here hx rfl (hb hby at_182) rfl (XS.iload X200.here hx rfl (hb hby at_183) rfl (XS.iloadN X200.here hx rfl (hb hby at_185) rfl k)))) ?_
                    show G (T200.setTop (mkF m 186 #[.val (.int p0), .val (.int p1), .val (.int p2), .val (.int p3), .val (.long p4), .second, .val (.int p5), .val (.int (p4.toInt32)), .val (.int (((p4.toUInt64 >>> ((32 : Int32) &&& 0x3f).toInt64.toUInt64).toInt64).toInt32)), .val (.int (p5 &&& (3 : Int32))), .val (.int (((p5.toUInt32 >>> ((2 : Int32) &&& 31).toUInt32).toInt32) &&& (3 : Int32))), .val (.ref b101), .val (.ref b110), .val (.int f_149), .val (.int f_150), .val (.int f_151), .val (.int f_152), .val (.int f_153), .val (.int f_154), .unset, .unset, .unset] [(.int p2), (.int f_152), (.int p1), (.int f_150)]))
                    obtain ⟨rv205, T205, L205, X205, q205, st205⟩ := own_st X200 hx hZ (y := (⟨"com/example/hatoyama/hatoyama/IndexSetIntersectsPinLaw", "pair", "(ZIZI)Z"⟩ : MethodName)) hown (ow hw 62 rfl) (ow hw 63 rfl) (ow hw 19 rfl) (ow hw 64 rfl) (by decide) (own_bkN (W := 0) (rm12 l Z a0 hw nk kk0 O_nk V_nk nw kw0 O_nw V_nw [] f_150 p1 f_152 p2 T136.heap n0 (Nat.le_trans Z0 Z190)) hZ (ow hw 64 rfl) (ow hw 19 rfl) (by decide) (by decide)) e200 (g := (mkF m 186 #[.val (.int p0), .val (.int p1), .val (.int p2), .val (.int p3), .val (.long p4), .second, .val (.int p5), .val (.int (p4.toInt32)), .val (.int (((p4.toUInt64 >>> ((32 : Int32) &&& 0x3f).toInt64.toUInt64).toInt64).toInt32)), .val (.int (p5 &&& (3 : Int32))), .val (.int (((p5.toUInt32 >>> ((2 : Int32) &&& 31).toUInt32).toInt32) &&& (3 : Int32))), .val (.ref b101), .val (.ref b110), .val (.int f_149), .val (.int f_150), .val (.int f_151), .val (.int f_152), .val (.int f_153), .val (.int f_154), .unset, .unset, .unset] [(.int p2), (.int f_152), (.int p1), (.int f_150)])) rfl (by rw [hml]; rfl) (argsL := [(.int f_150), (.int p1), (.int f_152), (.int p2)]) (rest := []) rfl (lenOf own_pd9 rfl) rfl (by show 2 * 0 + _ ≤ _; exact Nat.le_of_eq rfl) (hb hby at_186) (by decide) (by decide)
                    obtain ⟨Nq205, e205, q205⟩ := q205
                    have N205 := Fr.app N200 Nq205
                    rcases q205 with ⟨rfl, p206, p207, p208⟩ | ⟨rfl, p209⟩
                    · refine go _ _ (st205) ?_
                      show G (T205.setTop (mkF m 189 #[.val (.int p0), .val (.int p1), .val (.int p2), .val (.int p3), .val (.long p4), .second, .val (.int p5), .val (.int (p4.toInt32)), .val (.int (((p4.toUInt64 >>> ((32 : Int32) &&& 0x3f).toInt64.toUInt64).toInt64).toInt32)), .val (.int (p5 &&& (3 : Int32))), .val (.int (((p5.toUInt32 >>> ((2 : Int32) &&& 31).toUInt32).toInt32) &&& (3 : Int32))), .val (.ref b101), .val (.ref b110), .val (.int f_149), .val (.int f_150), .val (.int f_151), .val (.int f_152), .val (.int f_153), .val (.int f_154), .unset, .unset, .unset] [(.int (1 : Int32))]))
                      refine go _ _ (fun _ k => XS.ifYes X205.here hx rfl (pc0 := 189) (pc' := 257) rfl (hb hby at_189) rfl (by decide) (by decide) (by decide) k) ?_
                      show G (T205.setTop (mkF m 257 #[.val (.int p0), .val (.int p1), .val (.int p2), .val (.int p3), .val (.long p4), .second, .val (.int p5), .val (.int (p4.toInt32)), .val (.int (((p4.toUInt64 >>> ((32 : Int32) &&& 0x3f).toInt64.toUInt64).toInt64).toInt32)), .val (.int (p5 &&& (3 : Int32))), .val (.int (((p5.toUInt32 >>> ((2 : Int32) &&& 31).toUInt32).toInt32) &&& (3 : Int32))), .val (.ref b101), .val (.ref b110), .val (.int f_149), .val (.int f_150), .val (.int f_151), .val (.int f_152), .val (.int f_153), .val (.int f_154), .unset, .unset, .unset] []))
                      refine go _ _ (fun _ k => XS.iconst X205.here hx rfl (hb hby at_257) k) ?_
                      show G (T205.setTop (mkF m 258 #[.val (.int p0), .val (.int p1), .val (.int p2), .val (.int p3), .val (.long p4), .second, .val (.int p5), .val (.int (p4.toInt32)), .val (.int (((p4.toUInt64 >>> ((32 : Int32) &&& 0x3f).toInt64.toUInt64).toInt64).toInt32)), .val (.int (p5 &&& (3 : Int32))), .val (.int (((p5.toUInt32 >>> ((2 : Int32) &&& 31).toUInt32).toInt32) &&& (3 : Int32))), .val (.ref b101), .val (.ref b110), .val (.int f_149), .val (.int f_150), .val (.int f_151), .val (.int f_152), .val (.int f_153), .val (.int f_154), .unset, .unset, .unset] [(.int (1 : Int32))]))
                      refine go _ _ (fun _ k => XS.goto X205.here hx rfl (pc0 := 258) (pc' := 262) rfl (hb hby at_258) (by decide) (by decide) k) ?_
                      show G (T205.setTop (mkF m 262 #[.val (.int p0), .val (.int p1), .val (.int p2), .val (.int p3), .val (.long p4), .second, .val (.int p5), .val (.int (p4.toInt32)), .val (.int (((p4.toUInt64 >>> ((32 : Int32) &&& 0x3f).toInt64.toUInt64).toInt64).toInt32)), .val (.int (p5 &&& (3 : Int32))), .val (.int (((p5.toUInt32 >>> ((2 : Int32) &&& 31).toUInt32).toInt32) &&& (3 : Int32))), .val (.ref b101), .val (.ref b110), .val (.int f_149), .val (.int f_150), .val (.int f_151), .val (.int f_152), .val (.int f_153), .val (.int f_154), .unset, .unset, .unset] [(.int (1 : Int32))]))
                      exact J155 _ _ (X205.more (by decide) (by decide)) e205 N205 (1 : Int32) (Or.inl ⟨rfl, own_some (own_Lm.mpr (Or.inr (Or.inl ⟨own_isT pj150_f0 p206, rfl⟩))) (own_Lm.mpr (Or.inl ⟨own_isT pj152_f0 p207, p208⟩))⟩)
                    · refine go _ _ (st205) ?_
                      show G (T205.setTop (mkF m 189 #[.val (.int p0), .val (.int p1), .val (.int p2), .val (.int p3), .val (.long p4), .second, .val (.int p5), .val (.int (p4.toInt32)), .val (.int (((p4.toUInt64 >>> ((32 : Int32) &&& 0x3f).toInt64.toUInt64).toInt64).toInt32)), .val (.int (p5 &&& (3 : Int32))), .val (.int (((p5.toUInt32 >>> ((2 : Int32) &&& 31).toUInt32).toInt32) &&& (3 : Int32))), .val (.ref b101), .val (.ref b110), .val (.int f_149), .val (.int f_150), .val (.int f_151), .val (.int f_152), .val (.int f_153), .val (.int f_154), .unset, .unset, .unset] [(.int (0 : Int32))]))
                      refine go _ _ (fun _ k => XS.ifNo X205.here hx rfl (hb hby at_189) rfl (by decide) k) ?_
                      show G (T205.setTop (mkF m 192 #[.val (.int p0), .val (.int p1), .val (.int p2), .val (.int p3), .val (.long p4), .second, .val (.int p5), .val (.int (p4.toInt32)), .val (.int (((p4.toUInt64 >>> ((32 : Int32) &&& 0x3f).toInt64.toUInt64).toInt64).toInt32)), .val (.int (p5 &&& (3 : Int32))), .val (.int (((p5.toUInt32 >>> ((2 : Int32) &&& 31).toUInt32).toInt32) &&& (3 : Int32))), .val (.ref b101), .val (.ref b110), .val (.int f_149), .val (.int f_150), .val (.int f_151), .val (.int f_152), .val (.int f_153), .val (.int f_154), .unset, .unset, .unset] []))
                      refine go _ _ (fun _ k => XS.iload X205.here hx rfl (hb hby at_192) rfl (XS.iloadN X205.here hx rfl (hb hby at_194) rfl (XS.iload X205.here hx rfl (hb hby at_195) rfl (XS.iloadN X205.here hx rfl (hb hby at_197) rfl k)))) ?_
                      show G (T205.setTop (mkF m 198 #[.val (.int p0), .val (.int p1), .val (.int p2), .val (.int p3), .val (.long p4), .second, .val (.int p5), .val (.int (p4.toInt32)), .val (.int (((p4.toUInt64 >>> ((32 : Int32) &&& 0x3f).toInt64.toUInt64).toInt64).toInt32)), .val (.int (p5 &&& (3 : Int32))), .val (.int (((p5.toUInt32 >>> ((2 : Int32) &&& 31).toUInt32).toInt32) &&& (3 : Int32))), .val (.ref b101), .val (.ref b110), .val (.int f_149), .val (.int f_150), .val (.int f_151), .val (.int f_152), .val (.int f_153), .val (.int f_154), .unset, .unset, .unset] [(.int p3), (.int f_153), (.int p1), (.int f_150)]))
                      obtain ⟨rv210, T210, L210, X210, q210, st210⟩ := own_st X205 hx hZ (y := (⟨"com/example/hatoyama/hatoyama/IndexSetIntersectsPinLaw", "pair", "(ZIZI)Z"⟩ : MethodName)) hown (ow hw 62 rfl) (ow hw 63 rfl) (ow hw 19 rfl) (ow hw 64 rfl) (by decide) (own_bkN (W := 0) (rm12 l Z a0 hw nk kk0 O_nk V_nk nw kw0 O_nw V_nw [] f_150 p1 f_153 p3 T136.heap n0 (Nat.le_trans Z0 Z190)) hZ (ow hw 64 rfl) (ow hw 19 rfl) (by decide) (by decide)) e205 (g := (mkF m 198 #[.val (.int p0), .val (.int p1), .val (.int p2), .val (.int p3), .val (.long p4), .second, .val (.int p5), .val (.int (p4.toInt32)), .val (.int (((p4.toUInt64 >>> ((32 : Int32) &&& 0x3f).toInt64.toUInt64).toInt64).toInt32)), .val (.int (p5 &&& (3 : Int32))), .val (.int (((p5.toUInt32 >>> ((2 : Int32) &&& 31).toUInt32).toInt32) &&& (3 : Int32))), .val (.ref b101), .val (.ref b110), .val (.int f_149), .val (.int f_150), .val (.int f_151), .val (.int f_152), .val (.int f_153), .val (.int f_154), .unset, .unset, .unset] [(.int p3), (.int f_153), (.int p1), (.int f_150)])) rfl (by rw [hml]; rfl) (argsL := [(.int f_150), (.int p1), (.int f_153), (.int p3)]) (rest := []) rfl (lenOf own_pd9 rfl) rfl (by show 2 * 0 + _ ≤ _; exact Nat.le_of_eq rfl) (hb hby at_198) (by decide) (by decide)
                      obtain ⟨Nq210, e210, q210⟩ := q210
                      have N210 := Fr.app N205 Nq210
                      rcases q210 with ⟨rfl, p211, p212, p213⟩ | ⟨rfl, p214⟩
                      · refine go _ _ (st210) ?_
                        show G (T210.setTop (mkF m 201 #[.val (.int p0), .val (.int p1), .val (.int p2), .val (.int p3), .val (.long p4), .second, .val (.int p5), .val (.int (p4.toInt32)), .val (.int (((p4.toUInt64 >>> ((32 : Int32) &&& 0x3f).toInt64.toUInt64).toInt64).toInt32)), .val (.int (p5 &&& (3 : Int32))), .val (.int (((p5.toUInt32 >>> ((2 : Int32) &&& 31).toUInt32).toInt32) &&& (3 : Int32))), .val (.ref b101), .val (.ref b110), .val (.int f_149), .val (.int f_150), .val (.int f_151), .val (.int f_152), .val (.int f_153), .val (.int f_154), .unset, .unset, .unset] [(.int (1 : Int32))]))
                        refine go _ _ (fun _ k => XS.ifYes X210.here hx rfl (pc0 := 201) (pc' := 257) rfl (hb hby at_201) rfl (by decide) (by decide) (by decide) k) ?_
                        show G (T210.setTop (mkF m 257 #[.val (.int p0), .val (.int p1), .val (.int p2), .val (.int p3), .val (.long p4), .second, .val (.int p5), .val (.int (p4.toInt32)), .val (.int (((p4.toUInt64 >>> ((32 : Int32) &&& 0x3f).toInt64.toUInt64).toInt64).toInt32)), .val (.int (p5 &&& (3 : Int32))), .val (.int (((p5.toUInt32 >>> ((2 : Int32) &&& 31).toUInt32).toInt32) &&& (3 : Int32))), .val (.ref b101), .val (.ref b110), .val (.int f_149), .val (.int f_150), .val (.int f_151), .val (.int f_152), .val (.int f_153), .val (.int f_154), .unset, .unset, .unset] []))
                        refine go _ _ (fun _ k => XS.iconst X210.here hx rfl (hb hby at_257) k) ?_
                        show G (T210.setTop (mkF m 258 #[.val (.int p0), .val (.int p1), .val (.int p2), .val (.int p3), .val (.long p4), .second, .val (.int p5), .val (.int (p4.toInt32)), .val (.int (((p4.toUInt64 >>> ((32 : Int32) &&& 0x3f).toInt64.toUInt64).toInt64).toInt32)), .val (.int (p5 &&& (3 : Int32))), .val (.int (((p5.toUInt32 >>> ((2 : Int32) &&& 31).toUInt32).toInt32) &&& (3 : Int32))), .val (.ref b101), .val (.ref b110), .val (.int f_149), .val (.int f_150), .val (.int f_151), .val (.int f_152), .val (.int f_153), .val (.int f_154), .unset, .unset, .unset] [(.int (1 : Int32))]))
                        refine go _ _ (fun _ k => XS.goto X210.here hx rfl (pc0 := 258) (pc' := 262) rfl (hb hby at_258) (by decide) (by decide) k) ?_
                        show G (T210.setTop (mkF m 262 #[.val (.int p0), .val (.int p1), .val (.int p2), .val (.int p3), .val (.long p4), .second, .val (.int p5), .val (.int (p4.toInt32)), .val (.int (((p4.toUInt64 >>> ((32 : Int32) &&& 0x3f).toInt64.toUInt64).toInt64).toInt32)), .val (.int (p5 &&& (3 : Int32))), .val (.int (((p5.toUInt32 >>> ((2 : Int32) &&& 31).toUInt32).toInt32) &&& (3 : Int32))), .val (.ref b101), .val (.ref b110), .val (.int f_149), .val (.int f_150), .val (.int f_151), .val (.int f_152), .val (.int f_153), .val (.int f_154), .unset, .unset, .unset] [(.int (1 : Int32))]))
                        exact J155 _ _ (X210.more (by decide) (by decide)) e210 N210 (1 : Int32) (Or.inl ⟨rfl, own_some (own_Lm.mpr (Or.inr (Or.inl ⟨own_isT pj150_f0 p211, rfl⟩))) (own_Lm.mpr (Or.inr (Or.inl ⟨own_isT pj153_f0 p212, p213⟩)))⟩)
                      · refine go _ _ (st210) ?_
                        show G (T210.setTop (mkF m 201 #[.val (.int p0), .val (.int p1), .val (.int p2), .val (.int p3), .val (.long p4), .second, .val (.int p5), .val (.int (p4.toInt32)), .val (.int (((p4.toUInt64 >>> ((32 : Int32) &&& 0x3f).toInt64.toUInt64).toInt64).toInt32)), .val (.int (p5 &&& (3 : Int32))), .val (.int (((p5.toUInt32 >>> ((2 : Int32) &&& 31).toUInt32).toInt32) &&& (3 : Int32))), .val (.ref b101), .val (.ref b110), .val (.int f_149), .val (.int f_150), .val (.int f_151), .val (.int f_152), .val (.int f_153), .val (.int f_154), .unset, .unset, .unset] [(.int (0 : Int32))]))
                        refine go _ _ (fun _ k => XS.ifNo X210.here hx rfl (hb hby at_201) rfl (by decide) k) ?_
                        show G (T210.setTop (mkF m 204 #[.val (.int p0), .val (.int p1), .val (.int p2), .val (.int p3), .val (.long p4), .second, .val (.int p5), .val (.int (p4.toInt32)), .val (.int (((p4.toUInt64 >>> ((32 : Int32) &&& 0x3f).toInt64.toUInt64).toInt64).toInt32)), .val (.int (p5 &&& (3 : Int32))), .val (.int (((p5.toUInt32 >>> ((2 : Int32) &&& 31).toUInt32).toInt32) &&& (3 : Int32))), .val (.ref b101), .val (.ref b110), .val (.int f_149), .val (.int f_150), .val (.int f_151), .val (.int f_152), .val (.int f_153), .val (.int f_154), .unset, .unset, .unset] []))
                        refine go _ _ (fun _ k => XS.iload X210.here hx rfl (hb hby at_204) rfl (XS.iloadN X210.here hx rfl (hb hby at_206) rfl (XS.iload X210.here hx rfl (hb hby at_207) rfl (XS.iload X210.here hx rfl (hb hby at_209) rfl k)))) ?_
                        show G (T210.setTop (mkF m 211 #[.val (.int p0), .val (.int p1), .val (.int p2), .val (.int p3), .val (.long p4), .second, .val (.int p5), .val (.int (p4.toInt32)), .val (.int (((p4.toUInt64 >>> ((32 : Int32) &&& 0x3f).toInt64.toUInt64).toInt64).toInt32)), .val (.int (p5 &&& (3 : Int32))), .val (.int (((p5.toUInt32 >>> ((2 : Int32) &&& 31).toUInt32).toInt32) &&& (3 : Int32))), .val (.ref b101), .val (.ref b110), .val (.int f_149), .val (.int f_150), .val (.int f_151), .val (.int f_152), .val (.int f_153), .val (.int f_154), .unset, .unset, .unset] [(.int (((p4.toUInt64 >>> ((32 : Int32) &&& 0x3f).toInt64.toUInt64).toInt64).toInt32)), (.int f_154), (.int p1), (.int f_150)]))
                        obtain ⟨rv215, T215, L215, X215, q215, st215⟩ := own_st X210 hx hZ (y := (⟨"com/example/hatoyama/hatoyama/IndexSetIntersectsPinLaw", "pair", "(ZIZI)Z"⟩ : MethodName)) hown (ow hw 62 rfl) (ow hw 63 rfl) (ow hw 19 rfl) (ow hw 64 rfl) (by decide) (own_bkN (W := 0) (rm12 l Z a0 hw nk kk0 O_nk V_nk nw kw0 O_nw V_nw [] f_150 p1 f_154 (((p4.toUInt64 >>> ((32 : Int32) &&& 0x3f).toInt64.toUInt64).toInt64).toInt32) T136.heap n0 (Nat.le_trans Z0 Z190)) hZ (ow hw 64 rfl) (ow hw 19 rfl) (by decide) (by decide)) e210 (g := (mkF m 211 #[.val (.int p0), .val (.int p1), .val (.int p2), .val (.int p3), .val (.long p4), .second, .val (.int p5), .val (.int (p4.toInt32)), .val (.int (((p4.toUInt64 >>> ((32 : Int32) &&& 0x3f).toInt64.toUInt64).toInt64).toInt32)), .val (.int (p5 &&& (3 : Int32))), .val (.int (((p5.toUInt32 >>> ((2 : Int32) &&& 31).toUInt32).toInt32) &&& (3 : Int32))), .val (.ref b101), .val (.ref b110), .val (.int f_149), .val (.int f_150), .val (.int f_151), .val (.int f_152), .val (.int f_153), .val (.int f_154), .unset, .unset, .unset] [(.int (((p4.toUInt64 >>> ((32 : Int32) &&& 0x3f).toInt64.toUInt64).toInt64).toInt32)), (.int f_154), (.int p1), (.int f_150)])) rfl (by rw [hml]; rfl) (argsL := [(.int f_150), (.int p1), (.int f_154), (.int (((p4.toUInt64 >>> ((32 : Int32) &&& 0x3f).toInt64.toUInt64).toInt64).toInt32))]) (rest := []) rfl (lenOf own_pd9 rfl) rfl (by show 2 * 0 + _ ≤ _; exact Nat.le_of_eq rfl) (hb hby at_211) (by decide) (by decide)
                        obtain ⟨Nq215, e215, q215⟩ := q215
                        have N215 := Fr.app N210 Nq215
                        rcases q215 with ⟨rfl, p216, p217, p218⟩ | ⟨rfl, p219⟩
                        · refine go _ _ (st215) ?_
                          show G (T215.setTop (mkF m 214 #[.val (.int p0), .val (.int p1), .val (.int p2), .val (.int p3), .val (.long p4), .second, .val (.int p5), .val (.int (p4.toInt32)), .val (.int (((p4.toUInt64 >>> ((32 : Int32) &&& 0x3f).toInt64.toUInt64).toInt64).toInt32)), .val (.int (p5 &&& (3 : Int32))), .val (.int (((p5.toUInt32 >>> ((2 : Int32) &&& 31).toUInt32).toInt32) &&& (3 : Int32))), .val (.ref b101), .val (.ref b110), .val (.int f_149), .val (.int f_150), .val (.int f_151), .val (.int f_152), .val (.int f_153), .val (.int f_154), .unset, .unset, .unset] [(.int (1 : Int32))]))
                          refine go _ _ (fun _ k => XS.ifYes X215.here hx rfl (pc0 := 214) (pc' := 257) rfl (hb hby at_214) rfl (by decide) (by decide) (by decide) k) ?_
                          show G (T215.setTop (mkF m 257 #[.val (.int p0), .val (.int p1), .val (.int p2), .val (.int p3), .val (.long p4), .second, .val (.int p5), .val (.int (p4.toInt32)), .val (.int (((p4.toUInt64 >>> ((32 : Int32) &&& 0x3f).toInt64.toUInt64).toInt64).toInt32)), .val (.int (p5 &&& (3 : Int32))), .val (.int (((p5.toUInt32 >>> ((2 : Int32) &&& 31).toUInt32).toInt32) &&& (3 : Int32))), .val (.ref b101), .val (.ref b110), .val (.int f_149), .val (.int f_150), .val (.int f_151), .val (.int f_152), .val (.int f_153), .val (.int f_154), .unset, .unset, .unset] []))
                          refine go _ _ (fun _ k => XS.iconst X215.here hx rfl (hb hby at_257) k) ?_
                          show G (T215.setTop (mkF m 258 #[.val (.int p0), .val (.int p1), .val (.int p2), .val (.int p3), .val (.long p4), .second, .val (.int p5), .val (.int (p4.toInt32)), .val (.int (((p4.toUInt64 >>> ((32 : Int32) &&& 0x3f).toInt64.toUInt64).toInt64).toInt32)), .val (.int (p5 &&& (3 : Int32))), .val (.int (((p5.toUInt32 >>> ((2 : Int32) &&& 31).toUInt32).toInt32) &&& (3 : Int32))), .val (.ref b101), .val (.ref b110), .val (.int f_149), .val (.int f_150), .val (.int f_151), .val (.int f_152), .val (.int f_153), .val (.int f_154), .unset, .unset, .unset] [(.int (1 : Int32))]))
                          refine go _ _ (fun _ k => XS.goto X215.here hx rfl (pc0 := 258) (pc' := 262) rfl (hb hby at_258) (by decide) (by decide) k) ?_
                          show G (T215.setTop (mkF m 262 #[.val (.int p0), .val (.int p1), .val (.int p2), .val (.int p3), .val (.long p4), .second, .val (.int p5), .val (.int (p4.toInt32)), .val (.int (((p4.toUInt64 >>> ((32 : Int32) &&& 0x3f).toInt64.toUInt64).toInt64).toInt32)), .val (.int (p5 &&& (3 : Int32))), .val (.int (((p5.toUInt32 >>> ((2 : Int32) &&& 31).toUInt32).toInt32) &&& (3 : Int32))), .val (.ref b101), .val (.ref b110), .val (.int f_149), .val (.int f_150), .val (.int f_151), .val (.int f_152), .val (.int f_153), .val (.int f_154), .unset, .unset, .unset] [(.int (1 : Int32))]))
                          exact J155 _ _ (X215.more (by decide) (by decide)) e215 N215 (1 : Int32) (Or.inl ⟨rfl, own_some (own_Lm.mpr (Or.inr (Or.inl ⟨own_isT pj150_f0 p216, rfl⟩))) (own_Lm.mpr (Or.inr (Or.inr ⟨own_isT pj154_f0 p217, p218⟩)))⟩)
                        · refine go _ _ (st215) ?_
                          show G (T215.setTop (mkF m 214 #[.val (.int p0), .val (.int p1), .val (.int p2), .val (.int p3), .val (.long p4), .second, .val (.int p5), .val (.int (p4.toInt32)), .val (.int (((p4.toUInt64 >>> ((32 : Int32) &&& 0x3f).toInt64.toUInt64).toInt64).toInt32)), .val (.int (p5 &&& (3 : Int32))), .val (.int (((p5.toUInt32 >>> ((2 : Int32) &&& 31).toUInt32).toInt32) &&& (3 : Int32))), .val (.ref b101), .val (.ref b110), .val (.int f_149), .val (.int f_150), .val (.int f_151), .val (.int f_152), .val (.int f_153), .val (.int f_154), .unset, .unset, .unset] [(.int (0 : Int32))]))
                          refine go _ _ (fun _ k => XS.ifNo X215.here hx rfl (hb hby at_214) rfl (by decide) k) ?_
                          show G (T215.setTop (mkF m 217 #[.val (.int p0), .val (.int p1), .val (.int p2), .val (.int p3), .val (.long p4), .second, .val (.int p5), .val (.int (p4.toInt32)), .val (.int (((p4.toUInt64 >>> ((32 : Int32) &&& 0x3f).toInt64.toUInt64).toInt64).toInt32)), .val (.int (p5 &&& (3 : Int32))), .val (.int (((p5.toUInt32 >>> ((2 : Int32) &&& 31).toUInt32).toInt32) &&& (3 : Int32))), .val (.ref b101), .val (.ref b110), .val (.int f_149), .val (.int f_150), .val (.int f_151), .val (.int f_152), .val (.int f_153), .val (.int f_154), .unset, .unset, .unset] []))
                          refine go _ _ (fun _ k => XS.iload X215.here hx rfl (hb hby at_217) rfl (XS.iload X215.here hx rfl (hb hby at_219) rfl (XS.iload X215.here hx rfl (hb hby at_221) rfl (XS.iloadN X215.here hx rfl (hb hby at_223) rfl k)))) ?_
                          show G (T215.setTop (mkF m 224 #[.val (.int p0), .val (.int p1), .val (.int p2), .val (.int p3), .val (.long p4), .second, .val (.int p5), .val (.int (p4.toInt32)), .val (.int (((p4.toUInt64 >>> ((32 : Int32) &&& 0x3f).toInt64.toUInt64).toInt64).toInt32)), .val (.int (p5 &&& (3 : Int32))), .val (.int (((p5.toUInt32 >>> ((2 : Int32) &&& 31).toUInt32).toInt32) &&& (3 : Int32))), .val (.ref b101), .val (.ref b110), .val (.int f_149), .val (.int f_150), .val (.int f_151), .val (.int f_152), .val (.int f_153), .val (.int f_154), .unset, .unset, .unset] [(.int p2), (.int f_152), (.int (p4.toInt32)), (.int f_151)]))
                          obtain ⟨rv220, T220, L220, X220, q220, st220⟩ := own_st X215 hx hZ (y := (⟨"com/example/hatoyama/hatoyama/IndexSetIntersectsPinLaw", "pair", "(ZIZI)Z"⟩ : MethodName)) hown (ow hw 62 rfl) (ow hw 63 rfl) (ow hw 19 rfl) (ow hw 64 rfl) (by decide) (own_bkN (W := 0) (rm12 l Z a0 hw nk kk0 O_nk V_nk nw kw0 O_nw V_nw [] f_151 (p4.toInt32) f_152 p2 T136.heap n0 (Nat.le_trans Z0 Z190)) hZ (ow hw 64 rfl) (ow hw 19 rfl) (by decide) (by decide)) e215 (g := (mkF m 224 #[.val (.int p0), .val (.int p1), .val (.int p2), .val (.int p3), .val (.long p4), .second, .val (.int p5), .val (.int (p4.toInt32)), .val (.int (((p4.toUInt64 >>> ((32 : Int32) &&& 0x3f).toInt64.toUInt64).toInt64).toInt32)), .val (.int (p5 &&& (3 : Int32))), .val (.int (((p5.toUInt32 >>> ((2 : Int32) &&& 31).toUInt32).toInt32) &&& (3 : Int32))), .val (.ref b101), .val (.ref b110), .val (.int f_149), .val (.int f_150), .val (.int f_151), .val (.int f_152), .val (.int f_153), .val (.int f_154), .unset, .unset, .unset] [(.int p2), (.int f_152), (.int (p4.toInt32)), (.int f_151)])) rfl (by rw [hml]; rfl) (argsL := [(.int f_151), (.int (p4.toInt32)), (.int f_152), (.int p2)]) (rest := []) rfl (lenOf own_pd9 rfl) rfl (by show 2 * 0 + _ ≤ _; exact Nat.le_of_eq rfl) (hb hby at_224) (by decide) (by decide)
                          obtain ⟨Nq220, e220, q220⟩ := q220
                          have N220 := Fr.app N215 Nq220
                          rcases q220 with ⟨rfl, p221, p222, p223⟩ | ⟨rfl, p224⟩
                          · refine go _ _ (st220) ?_
                            show G (T220.setTop (mkF m 227 #[.val (.int p0), .val (.int p1), .val (.int p2), .val (.int p3), .val (.long p4), .second, .val (.int p5), .val (.int (p4.toInt32)), .val (.int (((p4.toUInt64 >>> ((32 : Int32) &&& 0x3f).toInt64.toUInt64).toInt64).toInt32)), .val (.int (p5 &&& (3 : Int32))), .val (.int (((p5.toUInt32 >>> ((2 : Int32) &&& 31).toUInt32).toInt32) &&& (3 : Int32))), .val (.ref b101), .val (.ref b110), .val (.int f_149), .val (.int f_150), .val (.int f_151), .val (.int f_152), .val (.int f_153), .val (.int f_154), .unset, .unset, .unset] [(.int (1 : Int32))]))
                            refine go _ _ (fun _ k => XS.ifYes X220.here hx rfl (pc0 := 227) (pc' := 257) rfl (hb hby at_227) rfl (by decide) (by decide) (by decide) k) ?_
                            show G (T220.setTop (mkF m 257 #[.val (.int p0), .val (.int p1), .val (.int p2), .val (.int p3), .val (.long p4), .second, .val (.int p5), .val (.int (p4.toInt32)), .val (.int (((p4.toUInt64 >>> ((32 : Int32) &&& 0x3f).toInt64.toUInt64).toInt64).toInt32)), .val (.int (p5 &&& (3 : Int32))), .val (.int (((p5.toUInt32 >>> ((2 : Int32) &&& 31).toUInt32).toInt32) &&& (3 : Int32))), .val (.ref b101), .val (.ref b110), .val (.int f_149), .val (.int f_150), .val (.int f_151), .val (.int f_152), .val (.int f_153), .val (.int f_154), .unset, .unset, .unset] []))
                            refine go _ _ (fun _ k => XS.iconst X220.here hx rfl (hb hby at_257) k) ?_
                            show G (T220.setTop (mkF m 258 #[.val (.int p0), .val (.int p1), .val (.int p2), .val (.int p3), .val (.long p4), .second, .val (.int p5), .val (.int (p4.toInt32)), .val (.int (((p4.toUInt64 >>> ((32 : Int32) &&& 0x3f).toInt64.toUInt64).toInt64).toInt32)), .val (.int (p5 &&& (3 : Int32))), .val (.int (((p5.toUInt32 >>> ((2 : Int32) &&& 31).toUInt32).toInt32) &&& (3 : Int32))), .val (.ref b101), .val (.ref b110), .val (.int f_149), .val (.int f_150), .val (.int f_151), .val (.int f_152), .val (.int f_153), .val (.int f_154), .unset, .unset, .unset] [(.int (1 : Int32))]))
                            refine go _ _ (fun _ k => XS.goto X220.here hx rfl (pc0 := 258) (pc' := 262) rfl (hb hby at_258) (by decide) (by decide) k) ?_
                            show G (T220.setTop (mkF m 262 #[.val (.int p0), .val (.int p1), .val (.int p2), .val (.int p3), .val (.long p4), .second, .val (.int p5), .val (.int (p4.toInt32)), .val (.int (((p4.toUInt64 >>> ((32 : Int32) &&& 0x3f).toInt64.toUInt64).toInt64).toInt32)), .val (.int (p5 &&& (3 : Int32))), .val (.int (((p5.toUInt32 >>> ((2 : Int32) &&& 31).toUInt32).toInt32) &&& (3 : Int32))), .val (.ref b101), .val (.ref b110), .val (.int f_149), .val (.int f_150), .val (.int f_151), .val (.int f_152), .val (.int f_153), .val (.int f_154), .unset, .unset, .unset] [(.int (1 : Int32))]))
                            exact J155 _ _ (X220.more (by decide) (by decide)) e220 N220 (1 : Int32) (Or.inl ⟨rfl, own_some (own_Lm.mpr (Or.inr (Or.inr ⟨own_isT pj151_f0 p221, rfl⟩))) (own_Lm.mpr (Or.inl ⟨own_isT pj152_f0 p222, p223⟩))⟩)
                          · refine go _ _ (st220) ?_
                            show G (T220.setTop (mkF m 227 #[.val (.int p0), .val (.int p1), .val (.int p2), .val (.int p3), .val (.long p4), .second, .val (.int p5), .val (.int (p4.toInt32)), .val (.int (((p4.toUInt64 >>> ((32 : Int32) &&& 0x3f).toInt64.toUInt64).toInt64).toInt32)), .val (.int (p5 &&& (3 : Int32))), .val (.int (((p5.toUInt32 >>> ((2 : Int32) &&& 31).toUInt32).toInt32) &&& (3 : Int32))), .val (.ref b101), .val (.ref b110), .val (.int f_149), .val (.int f_150), .val (.int f_151), .val (.int f_152), .val (.int f_153), .val (.int f_154), .unset, .unset, .unset] [(.int (0 : Int32))]))
                            refine go _ _ (fun _ k => XS.ifNo X220.here hx rfl (hb hby at_227) rfl (by decide) k) ?_
                            show G (T220.setTop (mkF m 230 #[.val (.int p0), .val (.int p1), .val (.int p2), .val (.int p3), .val (.long p4), .second, .val (.int p5), .val (.int (p4.toInt32)), .val (.int (((p4.toUInt64 >>> ((32 : Int32) &&& 0x3f).toInt64.toUInt64).toInt64).toInt32)), .val (.int (p5 &&& (3 : Int32))), .val (.int (((p5.toUInt32 >>> ((2 : Int32) &&& 31).toUInt32).toInt32) &&& (3 : Int32))), .val (.ref b101), .val (.ref b110), .val (.int f_149), .val (.int f_150), .val (.int f_151), .val (.int f_152), .val (.int f_153), .val (.int f_154), .unset, .unset, .unset] []))
                            refine go _ _ (fun _ k => XS.iload X220.here hx rfl (hb hby at_230) rfl (XS.iload X220.here hx rfl (hb hby at_232) rfl (XS.iload X220.here hx rfl (hb hby at_234) rfl (XS.iloadN X220.here hx rfl (hb hby at_236) rfl k)))) ?_
                            show G (T220.setTop (mkF m 237 #[.val (.int p0), .val (.int p1), .val (.int p2), .val (.int p3), .val (.long p4), .second, .val (.int p5), .val (.int (p4.toInt32)), .val (.int (((p4.toUInt64 >>> ((32 : Int32) &&& 0x3f).toInt64.toUInt64).toInt64).toInt32)), .val (.int (p5 &&& (3 : Int32))), .val (.int (((p5.toUInt32 >>> ((2 : Int32) &&& 31).toUInt32).toInt32) &&& (3 : Int32))), .val (.ref b101), .val (.ref b110), .val (.int f_149), .val (.int f_150), .val (.int f_151), .val (.int f_152), .val (.int f_153), .val (.int f_154), .unset, .unset, .unset] [(.int p3), (.int f_153), (.int (p4.toInt32)), (.int f_151)]))
                            obtain ⟨rv225, T225, L225, X225, q225, st225⟩ := own_st X220 hx hZ (y := (⟨"com/example/hatoyama/hatoyama/IndexSetIntersectsPinLaw", "pair", "(ZIZI)Z"⟩ : MethodName)) hown (ow hw 62 rfl) (ow hw 63 rfl) (ow hw 19 rfl) (ow hw 64 rfl) (by decide) (own_bkN (W := 0) (rm12 l Z a0 hw nk kk0 O_nk V_nk nw kw0 O_nw V_nw [] f_151 (p4.toInt32) f_153 p3 T136.heap n0 (Nat.le_trans Z0 Z190)) hZ (ow hw 64 rfl) (ow hw 19 rfl) (by decide) (by decide)) e220 (g := (mkF m 237 #[.val (.int p0), .val (.int p1), .val (.int p2), .val (.int p3), .val (.long p4), .second, .val (.int p5), .val (.int (p4.toInt32)), .val (.int (((p4.toUInt64 >>> ((32 : Int32) &&& 0x3f).toInt64.toUInt64).toInt64).toInt32)), .val (.int (p5 &&& (3 : Int32))), .val (.int (((p5.toUInt32 >>> ((2 : Int32) &&& 31).toUInt32).toInt32) &&& (3 : Int32))), .val (.ref b101), .val (.ref b110), .val (.int f_149), .val (.int f_150), .val (.int f_151), .val (.int f_152), .val (.int f_153), .val (.int f_154), .unset, .unset, .unset] [(.int p3), (.int f_153), (.int (p4.toInt32)), (.int f_151)])) rfl (by rw [hml]; rfl) (argsL := [(.int f_151), (.int (p4.toInt32)), (.int f_153), (.int p3)]) (rest := []) rfl (lenOf own_pd9 rfl) rfl (by show 2 * 0 + _ ≤ _; exact Nat.le_of_eq rfl) (hb hby at_237) (by decide) (by decide)
                            obtain ⟨Nq225, e225, q225⟩ := q225
                            have N225 := Fr.app N220 Nq225
                            rcases q225 with ⟨rfl, p226, p227, p228⟩ | ⟨rfl, p229⟩
                            · refine go _ _ (st225) ?_
                              show G (T225.setTop (mkF m 240 #[.val (.int p0), .val (.int p1), .val (.int p2), .val (.int p3), .val (.long p4), .second, .val (.int p5), .val (.int (p4.toInt32)), .val (.int (((p4.toUInt64 >>> ((32 : Int32) &&& 0x3f).toInt64.toUInt64).toInt64).toInt32)), .val (.int (p5 &&& (3 : Int32))), .val (.int (((p5.toUInt32 >>> ((2 : Int32) &&& 31).toUInt32).toInt32) &&& (3 : Int32))), .val (.ref b101), .val (.ref b110), .val (.int f_149), .val (.int f_150), .val (.int f_151), .val (.int f_152), .val (.int f_153), .val (.int f_154), .unset, .unset, .unset] [(.int (1 : Int32))]))
                              refine go _ _ (fun _ k => XS.ifYes X225.here hx rfl (pc0 := 240) (pc' := 257) rfl (hb hby at_240) rfl (by decide) (by decide) (by decide) k) ?_
                              show G (T225.setTop (mkF m 257 #[.val (.int p0), .val (.int p1), .val (.int p2), .val (.int p3), .val (.long p4), .second, .val (.int p5), .val (.int (p4.toInt32)), .val (.int (((p4.toUInt64 >>> ((32 : Int32) &&& 0x3f).toInt64.toUInt64).toInt64).toInt32)), .val (.int (p5 &&& (3 : Int32))), .val (.int (((p5.toUInt32 >>> ((2 : Int32) &&& 31).toUInt32).toInt32) &&& (3 : Int32))), .val (.ref b101), .val (.ref b110), .val (.int f_149), .val (.int f_150), .val (.int f_151), .val (.int f_152), .val (.int f_153), .val (.int f_154), .unset, .unset, .unset] []))
                              refine go _ _ (fun _ k => XS.iconst X225.here hx rfl (hb hby at_257) k) ?_
                              show G (T225.setTop (mkF m 258 #[.val (.int p0), .val (.int p1), .val (.int p2), .val (.int p3), .val (.long p4), .second, .val (.int p5), .val (.int (p4.toInt32)), .val (.int (((p4.toUInt64 >>> ((32 : Int32) &&& 0x3f).toInt64.toUInt64).toInt64).toInt32)), .val (.int (p5 &&& (3 : Int32))), .val (.int (((p5.toUInt32 >>> ((2 : Int32) &&& 31).toUInt32).toInt32) &&& (3 : Int32))), .val (.ref b101), .val (.ref b110), .val (.int f_149), .val (.int f_150), .val (.int f_151), .val (.int f_152), .val (.int f_153), .val (.int f_154), .unset, .unset, .unset] [(.int (1 : Int32))]))
                              refine go _ _ (fun _ k => XS.goto X225.here hx rfl (pc0 := 258) (pc' := 262) rfl (hb hby at_258) (by decide) (by decide) k) ?_
                              show G (T225.setTop (mkF m 262 #[.val (.int p0), .val (.int p1), .val (.int p2), .val (.int p3), .val (.long p4), .second, .val (.int p5), .val (.int (p4.toInt32)), .val (.int (((p4.toUInt64 >>> ((32 : Int32) &&& 0x3f).toInt64.toUInt64).toInt64).toInt32)), .val (.int (p5 &&& (3 : Int32))), .val (.int (((p5.toUInt32 >>> ((2 : Int32) &&& 31).toUInt32).toInt32) &&& (3 : Int32))), .val (.ref b101), .val (.ref b110), .val (.int f_149), .val (.int f_150), .val (.int f_151), .val (.int f_152), .val (.int f_153), .val (.int f_154), .unset, .unset, .unset] [(.int (1 : Int32))]))
                              exact J155 _ _ (X225.more (by decide) (by decide)) e225 N225 (1 : Int32) (Or.inl ⟨rfl, own_some (own_Lm.mpr (Or.inr (Or.inr ⟨own_isT pj151_f0 p226, rfl⟩))) (own_Lm.mpr (Or.inr (Or.inl ⟨own_isT pj153_f0 p227, p228⟩)))⟩)
                            · refine go _ _ (st225) ?_
                              show G (T225.setTop (mkF m 240 #[.val (.int p0), .val (.int p1), .val (.int p2), .val (.int p3), .val (.long p4), .second, .val (.int p5), .val (.int (p4.toInt32)), .val (.int (((p4.toUInt64 >>> ((32 : Int32) &&& 0x3f).toInt64.toUInt64).toInt64).toInt32)), .val (.int (p5 &&& (3 : Int32))), .val (.int (((p5.toUInt32 >>> ((2 : Int32) &&& 31).toUInt32).toInt32) &&& (3 : Int32))), .val (.ref b101), .val (.ref b110), .val (.int f_149), .val (.int f_150), .val (.int f_151), .val (.int f_152), .val (.int f_153), .val (.int f_154), .unset, .unset, .unset] [(.int (0 : Int32))]))
                              refine go _ _ (fun _ k => XS.ifNo X225.here hx rfl (hb hby at_240) rfl (by decide) k) ?_
                              show G (T225.setTop (mkF m 243 #[.val (.int p0), .val (.int p1), .val (.int p2), .val (.int p3), .val (.long p4), .second, .val (.int p5), .val (.int (p4.toInt32)), .val (.int (((p4.toUInt64 >>> ((32 : Int32) &&& 0x3f).toInt64.toUInt64).toInt64).toInt32)), .val (.int (p5 &&& (3 : Int32))), .val (.int (((p5.toUInt32 >>> ((2 : Int32) &&& 31).toUInt32).toInt32) &&& (3 : Int32))), .val (.ref b101), .val (.ref b110), .val (.int f_149), .val (.int f_150), .val (.int f_151), .val (.int f_152), .val (.int f_153), .val (.int f_154), .unset, .unset, .unset] []))
                              refine go _ _ (fun _ k => XS.iload X225.here hx rfl (hb hby at_243) rfl (XS.iload X225.here hx rfl (hb hby at_245) rfl (XS.iload X225.here hx rfl (hb hby at_247) rfl (XS.iload X225.here hx rfl (hb hby at_249) rfl k)))) ?_
                              show G (T225.setTop (mkF m 251 #[.val (.int p0), .val (.int p1), .val (.int p2), .val (.int p3), .val (.long p4), .second, .val (.int p5), .val (.int (p4.toInt32)), .val (.int (((p4.toUInt64 >>> ((32 : Int32) &&& 0x3f).toInt64.toUInt64).toInt64).toInt32)), .val (.int (p5 &&& (3 : Int32))), .val (.int (((p5.toUInt32 >>> ((2 : Int32) &&& 31).toUInt32).toInt32) &&& (3 : Int32))), .val (.ref b101), .val (.ref b110), .val (.int f_149), .val (.int f_150), .val (.int f_151), .val (.int f_152), .val (.int f_153), .val (.int f_154), .unset, .unset, .unset] [(.int (((p4.toUInt64 >>> ((32 : Int32) &&& 0x3f).toInt64.toUInt64).toInt64).toInt32)), (.int f_154), (.int (p4.toInt32)), (.int f_151)]))
                              obtain ⟨rv230, T230, L230, X230, q230, st230⟩ := own_st X225 hx hZ (y := (⟨"com/example/hatoyama/hatoyama/IndexSetIntersectsPinLaw", "pair", "(ZIZI)Z"⟩ : MethodName)) hown (ow hw 62 rfl) (ow hw 63 rfl) (ow hw 19 rfl) (ow hw 64 rfl) (by decide) (own_bkN (W := 0) (rm12 l Z a0 hw nk kk0 O_nk V_nk nw kw0 O_nw V_nw [] f_151 (p4.toInt32) f_154 (((p4.toUInt64 >>> ((32 : Int32) &&& 0x3f).toInt64.toUInt64).toInt64).toInt32) T136.heap n0 (Nat.le_trans Z0 Z190)) hZ (ow hw 64 rfl) (ow hw 19 rfl) (by decide) (by decide)) e225 (g := (mkF m 251 #[.val (.int p0), .val (.int p1), .val (.int p2), .val (.int p3), .val (.long p4), .second, .val (.int p5), .val (.int (p4.toInt32)), .val (.int (((p4.toUInt64 >>> ((32 : Int32) &&& 0x3f).toInt64.toUInt64).toInt64).toInt32)), .val (.int (p5 &&& (3 : Int32))), .val (.int (((p5.toUInt32 >>> ((2 : Int32) &&& 31).toUInt32).toInt32) &&& (3 : Int32))), .val (.ref b101), .val (.ref b110), .val (.int f_149), .val (.int f_150), .val (.int f_151), .val (.int f_152), .val (.int f_153), .val (.int f_154), .unset, .unset, .unset] [(.int (((p4.toUInt64 >>> ((32 : Int32) &&& 0x3f).toInt64.toUInt64).toInt64).toInt32)), (.int f_154), (.int (p4.toInt32)), (.int f_151)])) rfl (by rw [hml]; rfl) (argsL := [(.int f_151), (.int (p4.toInt32)), (.int f_154), (.int (((p4.toUInt64 >>> ((32 : Int32) &&& 0x3f).toInt64.toUInt64).toInt64).toInt32))]) (rest := []) rfl (lenOf own_pd9 rfl) rfl (by show 2 * 0 + _ ≤ _; exact Nat.le_of_eq rfl) (hb hby at_251) (by decide) (by decide)
                              obtain ⟨Nq230, e230, q230⟩ := q230
                              have N230 := Fr.app N225 Nq230
                              rcases q230 with ⟨rfl, p231, p232, p233⟩ | ⟨rfl, p234⟩
                              · refine go _ _ (st230) ?_
                                show G (T230.setTop (mkF m 254 #[.val (.int p0), .val (.int p1), .val (.int p2), .val (.int p3), .val (.long p4), .second, .val (.int p5), .val (.int (p4.toInt32)), .val (.int (((p4.toUInt64 >>> ((32 : Int32) &&& 0x3f).toInt64.toUInt64).toInt64).toInt32)), .val (.int (p5 &&& (3 : Int32))), .val (.int (((p5.toUInt32 >>> ((2 : Int32) &&& 31).toUInt32).toInt32) &&& (3 : Int32))), .val (.ref b101), .val (.ref b110), .val (.int f_149), .val (.int f_150), .val (.int f_151), .val (.int f_152), .val (.int f_153), .val (.int f_154), .unset, .unset, .unset] [(.int (1 : Int32))]))
                                refine go _ _ (fun _ k => XS.ifNo X230.here hx rfl (hb hby at_254) rfl (by decide) k) ?_
                                show G (T230.setTop (mkF m 257 #[.val (.int p0), .val (.int p1), .val (.int p2), .val (.int p3), .val (.long p4), .second, .val (.int p5), .val (.int (p4.toInt32)), .val (.int (((p4.toUInt64 >>> ((32 : Int32) &&& 0x3f).toInt64.toUInt64).toInt64).toInt32)), .val (.int (p5 &&& (3 : Int32))), .val (.int (((p5.toUInt32 >>> ((2 : Int32) &&& 31).toUInt32).toInt32) &&& (3 : Int32))), .val (.ref b101), .val (.ref b110), .val (.int f_149), .val (.int f_150), .val (.int f_151), .val (.int f_152), .val (.int f_153), .val (.int f_154), .unset, .unset, .unset] []))
                                refine go _ _ (fun _ k => XS.iconst X230.here hx rfl (hb hby at_257) k) ?_
                                show G (T230.setTop (mkF m 258 #[.val (.int p0), .val (.int p1), .val (.int p2), .val (.int p3), .val (.long p4), .second, .val (.int p5), .val (.int (p4.toInt32)), .val (.int (((p4.toUInt64 >>> ((32 : Int32) &&& 0x3f).toInt64.toUInt64).toInt64).toInt32)), .val (.int (p5 &&& (3 : Int32))), .val (.int (((p5.toUInt32 >>> ((2 : Int32) &&& 31).toUInt32).toInt32) &&& (3 : Int32))), .val (.ref b101), .val (.ref b110), .val (.int f_149), .val (.int f_150), .val (.int f_151), .val (.int f_152), .val (.int f_153), .val (.int f_154), .unset, .unset, .unset] [(.int (1 : Int32))]))
                                refine go _ _ (fun _ k => XS.goto X230.here hx rfl (pc0 := 258) (pc' := 262) rfl (hb hby at_258) (by decide) (by decide) k) ?_
                                show G (T230.setTop (mkF m 262 #[.val (.int p0), .val (.int p1), .val (.int p2), .val (.int p3), .val (.long p4), .second, .val (.int p5), .val (.int (p4.toInt32)), .val (.int (((p4.toUInt64 >>> ((32 : Int32) &&& 0x3f).toInt64.toUInt64).toInt64).toInt32)), .val (.int (p5 &&& (3 : Int32))), .val (.int (((p5.toUInt32 >>> ((2 : Int32) &&& 31).toUInt32).toInt32) &&& (3 : Int32))), .val (.ref b101), .val (.ref b110), .val (.int f_149), .val (.int f_150), .val (.int f_151), .val (.int f_152), .val (.int f_153), .val (.int f_154), .unset, .unset, .unset] [(.int (1 : Int32))]))
                                exact J155 _ _ (X230.more (by decide) (by decide)) e230 N230 (1 : Int32) (Or.inl ⟨rfl, own_some (own_Lm.mpr (Or.inr (Or.inr ⟨own_isT pj151_f0 p231, rfl⟩))) (own_Lm.mpr (Or.inr (Or.inr ⟨own_isT pj154_f0 p232, p233⟩)))⟩)
                              · refine go _ _ (st230) ?_
                                show G (T230.setTop (mkF m 254 #[.val (.int p0), .val (.int p1), .val (.int p2), .val (.int p3), .val (.long p4), .second, .val (.int p5), .val (.int (p4.toInt32)), .val (.int (((p4.toUInt64 >>> ((32 : Int32) &&& 0x3f).toInt64.toUInt64).toInt64).toInt32)), .val (.int (p5 &&& (3 : Int32))), .val (.int (((p5.toUInt32 >>> ((2 : Int32) &&& 31).toUInt32).toInt32) &&& (3 : Int32))), .val (.ref b101), .val (.ref b110), .val (.int f_149), .val (.int f_150), .val (.int f_151), .val (.int f_152), .val (.int f_153), .val (.int f_154), .unset, .unset, .unset] [(.int (0 : Int32))]))
                                refine go _ _ (fun _ k => XS.ifYes X230.here hx rfl (pc0 := 254) (pc' := 261) rfl (hb hby at_254) rfl (by decide) (by decide) (by decide) k) ?_
                                show G (T230.setTop (mkF m 261 #[.val (.int p0), .val (.int p1), .val (.int p2), .val (.int p3), .val (.long p4), .second, .val (.int p5), .val (.int (p4.toInt32)), .val (.int (((p4.toUInt64 >>> ((32 : Int32) &&& 0x3f).toInt64.toUInt64).toInt64).toInt32)), .val (.int (p5 &&& (3 : Int32))), .val (.int (((p5.toUInt32 >>> ((2 : Int32) &&& 31).toUInt32).toInt32) &&& (3 : Int32))), .val (.ref b101), .val (.ref b110), .val (.int f_149), .val (.int f_150), .val (.int f_151), .val (.int f_152), .val (.int f_153), .val (.int f_154), .unset, .unset, .unset] []))
                                refine go _ _ (fun _ k => XS.iconst X230.here hx rfl (hb hby at_261) k) ?_
                                show G (T230.setTop (mkF m 262 #[.val (.int p0), .val (.int p1), .val (.int p2), .val (.int p3), .val (.long p4), .second, .val (.int p5), .val (.int (p4.toInt32)), .val (.int (((p4.toUInt64 >>> ((32 : Int32) &&& 0x3f).toInt64.toUInt64).toInt64).toInt32)), .val (.int (p5 &&& (3 : Int32))), .val (.int (((p5.toUInt32 >>> ((2 : Int32) &&& 31).toUInt32).toInt32) &&& (3 : Int32))), .val (.ref b101), .val (.ref b110), .val (.int f_149), .val (.int f_150), .val (.int f_151), .val (.int f_152), .val (.int f_153), .val (.int f_154), .unset, .unset, .unset] [(.int (0 : Int32))]))
                                exact J155 _ _ (X230.more (by decide) (by decide)) e230 N230 (0 : Int32) (Or.inr ⟨rfl, own_none pj149_f0 pj150_f0 pj151_f0 pj152_f0 pj153_f0 pj154_f0 p194 p199 p204 p209 p214 p219 p224 p229 p234⟩)
            by_cases hc133_235 : (2 : Int32) < (((p5.toUInt32 >>> ((2 : Int32) &&& 31).toUInt32).toInt32) &&& (3 : Int32))
            · refine go _ _ (fun _ k => XS.icmpNo X153.here hx rfl (hb hby at_133) rfl (tlt hc133_235).2.2.2 k) ?_
              show G (T153.setTop (mkF m 136 #[.val (.int p0), .val (.int p1), .val (.int p2), .val (.int p3), .val (.long p4), .second, .val (.int p5), .val (.int (p4.toInt32)), .val (.int (((p4.toUInt64 >>> ((32 : Int32) &&& 0x3f).toInt64.toUInt64).toInt64).toInt32)), .val (.int (p5 &&& (3 : Int32))), .val (.int (((p5.toUInt32 >>> ((2 : Int32) &&& 31).toUInt32).toInt32) &&& (3 : Int32))), .val (.ref b101), .val (.ref b110), .val (.int f_149), .val (.int f_150), .val (.int f_151), .val (.int f_152), .val (.int f_153), .unset, .unset, .unset, .unset] []))
              refine go _ _ (fun _ k => XS.iconst X153.here hx rfl (hb hby at_136) k) ?_
              show G (T153.setTop (mkF m 137 #[.val (.int p0), .val (.int p1), .val (.int p2), .val (.int p3), .val (.long p4), .second, .val (.int p5), .val (.int (p4.toInt32)), .val (.int (((p4.toUInt64 >>> ((32 : Int32) &&& 0x3f).toInt64.toUInt64).toInt64).toInt32)), .val (.int (p5 &&& (3 : Int32))), .val (.int (((p5.toUInt32 >>> ((2 : Int32) &&& 31).toUInt32).toInt32) &&& (3 : Int32))), .val (.ref b101), .val (.ref b110), .val (.int f_149), .val (.int f_150), .val (.int f_151), .val (.int f_152), .val (.int f_153), .unset, .unset, .unset, .unset] [(.int (1 : Int32))]))
              refine go _ _ (fun _ k => XS.goto X153.here hx rfl (pc0 := 137) (pc' := 141) rfl (hb hby at_137) (by decide) (by decide) k) ?_
              show G (T153.setTop (mkF m 141 #[.val (.int p0), .val (.int p1), .val (.int p2), .val (.int p3), .val (.long p4), .second, .val (.int p5), .val (.int (p4.toInt32)), .val (.int (((p4.toUInt64 >>> ((32 : Int32) &&& 0x3f).toInt64.toUInt64).toInt64).toInt32)), .val (.int (p5 &&& (3 : Int32))), .val (.int (((p5.toUInt32 >>> ((2 : Int32) &&& 31).toUInt32).toInt32) &&& (3 : Int32))), .val (.ref b101), .val (.ref b110), .val (.int f_149), .val (.int f_150), .val (.int f_151), .val (.int f_152), .val (.int f_153), .unset, .unset, .unset, .unset] [(.int (1 : Int32))]))
              exact J154 _ _ (X153.more (by decide) (by decide)) e153 N153 (1 : Int32) (Or.inl ⟨rfl, hc133_235⟩)
            · refine go _ _ (fun _ k => XS.icmpYes X153.here hx rfl (pc0 := 133) (pc' := 140) rfl (hb hby at_133) rfl (flt hc133_235).2.2.2 (by decide) (by decide) k) ?_
              show G (T153.setTop (mkF m 140 #[.val (.int p0), .val (.int p1), .val (.int p2), .val (.int p3), .val (.long p4), .second, .val (.int p5), .val (.int (p4.toInt32)), .val (.int (((p4.toUInt64 >>> ((32 : Int32) &&& 0x3f).toInt64.toUInt64).toInt64).toInt32)), .val (.int (p5 &&& (3 : Int32))), .val (.int (((p5.toUInt32 >>> ((2 : Int32) &&& 31).toUInt32).toInt32) &&& (3 : Int32))), .val (.ref b101), .val (.ref b110), .val (.int f_149), .val (.int f_150), .val (.int f_151), .val (.int f_152), .val (.int f_153), .unset, .unset, .unset, .unset] []))
              refine go _ _ (fun _ k => XS.iconst X153.here hx rfl (hb hby at_140) k) ?_
              show G (T153.setTop (mkF m 141 #[.val (.int p0), .val (.int p1), .val (.int p2), .val (.int p3), .val (.long p4), .second, .val (.int p5), .val (.int (p4.toInt32)), .val (.int (((p4.toUInt64 >>> ((32 : Int32) &&& 0x3f).toInt64.toUInt64).toInt64).toInt32)), .val (.int (p5 &&& (3 : Int32))), .val (.int (((p5.toUInt32 >>> ((2 : Int32) &&& 31).toUInt32).toInt32) &&& (3 : Int32))), .val (.ref b101), .val (.ref b110), .val (.int f_149), .val (.int f_150), .val (.int f_151), .val (.int f_152), .val (.int f_153), .unset, .unset, .unset, .unset] [(.int (0 : Int32))]))
              exact J154 _ _ (X153.more (by decide) (by decide)) e153 N153 (0 : Int32) (Or.inr ⟨rfl, hc133_235⟩)
          by_cases hc120_236 : (1 : Int32) < (((p5.toUInt32 >>> ((2 : Int32) &&& 31).toUInt32).toInt32) &&& (3 : Int32))
          · refine go _ _ (fun _ k => XS.icmpNo X152.here hx rfl (hb hby at_120) rfl (tlt hc120_236).2.2.2 k) ?_
            show G (T152.setTop (mkF m 123 #[.val (.int p0), .val (.int p1), .val (.int p2), .val (.int p3), .val (.long p4), .second, .val (.int p5), .val (.int (p4.toInt32)), .val (.int (((p4.toUInt64 >>> ((32 : Int32) &&& 0x3f).toInt64.toUInt64).toInt64).toInt32)), .val (.int (p5 &&& (3 : Int32))), .val (.int (((p5.toUInt32 >>> ((2 : Int32) &&& 31).toUInt32).toInt32) &&& (3 : Int32))), .val (.ref b101), .val (.ref b110), .val (.int f_149), .val (.int f_150), .val (.int f_151), .val (.int f_152), .unset, .unset, .unset, .unset, .unset] []))
            refine go _ _ (fun _ k => XS.iconst X152.here hx rfl (hb hby at_123) k) ?_
            show G (T152.setTop (mkF m 124 #[.val (.int p0), .val (.int p1), .val (.int p2), .val (.int p3), .val (.long p4), .second, .val (.int p5), .val (.int (p4.toInt32)), .val (.int (((p4.toUInt64 >>> ((32 : Int32) &&& 0x3f).toInt64.toUInt64).toInt64).toInt32)), .val (.int (p5 &&& (3 : Int32))), .val (.int (((p5.toUInt32 >>> ((2 : Int32) &&& 31).toUInt32).toInt32) &&& (3 : Int32))), .val (.ref b101), .val (.ref b110), .val (.int f_149), .val (.int f_150), .val (.int f_151), .val (.int f_152), .unset, .unset, .unset, .unset, .unset] [(.int (1 : Int32))]))
            refine go _ _ (fun _ k => XS.goto X152.here hx rfl (pc0 := 124) (pc' := 128) rfl (hb hby at_124) (by decide) (by decide) k) ?_
            show G (T152.setTop (mkF m 128 #[.val (.int p0), .val (.int p1), .val (.int p2), .val (.int p3), .val (.long p4), .second, .val (.int p5), .val (.int (p4.toInt32)), .val (.int (((p4.toUInt64 >>> ((32 : Int32) &&& 0x3f).toInt64.toUInt64).toInt64).toInt32)), .val (.int (p5 &&& (3 : Int32))), .val (.int (((p5.toUInt32 >>> ((2 : Int32) &&& 31).toUInt32).toInt32) &&& (3 : Int32))), .val (.ref b101), .val (.ref b110), .val (.int f_149), .val (.int f_150), .val (.int f_151), .val (.int f_152), .unset, .unset, .unset, .unset, .unset] [(.int (1 : Int32))]))
            exact J153 _ _ (X152.more (by decide) (by decide)) e152 N152 (1 : Int32) (Or.inl ⟨rfl, hc120_236⟩)
          · refine go _ _ (fun _ k => XS.icmpYes X152.here hx rfl (pc0 := 120) (pc' := 127) rfl (hb hby at_120) rfl (flt hc120_236).2.2.2 (by decide) (by decide) k) ?_
            show G (T152.setTop (mkF m 127 #[.val (.int p0), .val (.int p1), .val (.int p2), .val (.int p3), .val (.long p4), .second, .val (.int p5), .val (.int (p4.toInt32)), .val (.int (((p4.toUInt64 >>> ((32 : Int32) &&& 0x3f).toInt64.toUInt64).toInt64).toInt32)), .val (.int (p5 &&& (3 : Int32))), .val (.int (((p5.toUInt32 >>> ((2 : Int32) &&& 31).toUInt32).toInt32) &&& (3 : Int32))), .val (.ref b101), .val (.ref b110), .val (.int f_149), .val (.int f_150), .val (.int f_151), .val (.int f_152), .unset, .unset, .unset, .unset, .unset] []))
            refine go _ _ (fun _ k => XS.iconst X152.here hx rfl (hb hby at_127) k) ?_
            show G (T152.setTop (mkF m 128 #[.val (.int p0), .val (.int p1), .val (.int p2), .val (.int p3), .val (.long p4), .second, .val (.int p5), .val (.int (p4.toInt32)), .val (.int (((p4.toUInt64 >>> ((32 : Int32) &&& 0x3f).toInt64.toUInt64).toInt64).toInt32)), .val (.int (p5 &&& (3 : Int32))), .val (.int (((p5.toUInt32 >>> ((2 : Int32) &&& 31).toUInt32).toInt32) &&& (3 : Int32))), .val (.ref b101), .val (.ref b110), .val (.int f_149), .val (.int f_150), .val (.int f_151), .val (.int f_152), .unset, .unset, .unset, .unset, .unset] [(.int (0 : Int32))]))
            exact J153 _ _ (X152.more (by decide) (by decide)) e152 N152 (0 : Int32) (Or.inr ⟨rfl, hc120_236⟩)
        by_cases hc107_237 : (0 : Int32) < (((p5.toUInt32 >>> ((2 : Int32) &&& 31).toUInt32).toInt32) &&& (3 : Int32))
        · refine go _ _ (fun _ k => XS.ifNo X151.here hx rfl (hb hby at_107) rfl ((if0 _ _).trans (tlt hc107_237).2.2.2) k) ?_
          show G (T151.setTop (mkF m 110 #[.val (.int p0), .val (.int p1), .val (.int p2), .val (.int p3), .val (.long p4), .second, .val (.int p5), .val (.int (p4.toInt32)), .val (.int (((p4.toUInt64 >>> ((32 : Int32) &&& 0x3f).toInt64.toUInt64).toInt64).toInt32)), .val (.int (p5 &&& (3 : Int32))), .val (.int (((p5.toUInt32 >>> ((2 : Int32) &&& 31).toUInt32).toInt32) &&& (3 : Int32))), .val (.ref b101), .val (.ref b110), .val (.int f_149), .val (.int f_150), .val (.int f_151), .unset, .unset, .unset, .unset, .unset, .unset] []))
          refine go _ _ (fun _ k => XS.iconst X151.here hx rfl (hb hby at_110) k) ?_
          show G (T151.setTop (mkF m 111 #[.val (.int p0), .val (.int p1), .val (.int p2), .val (.int p3), .val (.long p4), .second, .val (.int p5), .val (.int (p4.toInt32)), .val (.int (((p4.toUInt64 >>> ((32 : Int32) &&& 0x3f).toInt64.toUInt64).toInt64).toInt32)), .val (.int (p5 &&& (3 : Int32))), .val (.int (((p5.toUInt32 >>> ((2 : Int32) &&& 31).toUInt32).toInt32) &&& (3 : Int32))), .val (.ref b101), .val (.ref b110), .val (.int f_149), .val (.int f_150), .val (.int f_151), .unset, .unset, .unset, .unset, .unset, .unset] [(.int (1 : Int32))]))
          refine go _ _ (fun _ k => XS.goto X151.here hx rfl (pc0 := 111) (pc' := 115) rfl (hb hby at_111) (by decide) (by decide) k) ?_
          show G (T151.setTop (mkF m 115 #[.val (.int p0), .val (.int p1), .val (.int p2), .val (.int p3), .val (.long p4), .second, .val (.int p5), .val (.int (p4.toInt32)), .val (.int (((p4.toUInt64 >>> ((32 : Int32) &&& 0x3f).toInt64.toUInt64).toInt64).toInt32)), .val (.int (p5 &&& (3 : Int32))), .val (.int (((p5.toUInt32 >>> ((2 : Int32) &&& 31).toUInt32).toInt32) &&& (3 : Int32))), .val (.ref b101), .val (.ref b110), .val (.int f_149), .val (.int f_150), .val (.int f_151), .unset, .unset, .unset, .unset, .unset, .unset] [(.int (1 : Int32))]))
          exact J152 _ _ (X151.more (by decide) (by decide)) e151 N151 (1 : Int32) (Or.inl ⟨rfl, hc107_237⟩)
        · refine go _ _ (fun _ k => XS.ifYes X151.here hx rfl (pc0 := 107) (pc' := 114) rfl (hb hby at_107) rfl ((if0 _ _).trans (flt hc107_237).2.2.2) (by decide) (by decide) k) ?_
          show G (T151.setTop (mkF m 114 #[.val (.int p0), .val (.int p1), .val (.int p2), .val (.int p3), .val (.long p4), .second, .val (.int p5), .val (.int (p4.toInt32)), .val (.int (((p4.toUInt64 >>> ((32 : Int32) &&& 0x3f).toInt64.toUInt64).toInt64).toInt32)), .val (.int (p5 &&& (3 : Int32))), .val (.int (((p5.toUInt32 >>> ((2 : Int32) &&& 31).toUInt32).toInt32) &&& (3 : Int32))), .val (.ref b101), .val (.ref b110), .val (.int f_149), .val (.int f_150), .val (.int f_151), .unset, .unset, .unset, .unset, .unset, .unset] []))
          refine go _ _ (fun _ k => XS.iconst X151.here hx rfl (hb hby at_114) k) ?_
          show G (T151.setTop (mkF m 115 #[.val (.int p0), .val (.int p1), .val (.int p2), .val (.int p3), .val (.long p4), .second, .val (.int p5), .val (.int (p4.toInt32)), .val (.int (((p4.toUInt64 >>> ((32 : Int32) &&& 0x3f).toInt64.toUInt64).toInt64).toInt32)), .val (.int (p5 &&& (3 : Int32))), .val (.int (((p5.toUInt32 >>> ((2 : Int32) &&& 31).toUInt32).toInt32) &&& (3 : Int32))), .val (.ref b101), .val (.ref b110), .val (.int f_149), .val (.int f_150), .val (.int f_151), .unset, .unset, .unset, .unset, .unset, .unset] [(.int (0 : Int32))]))
          exact J152 _ _ (X151.more (by decide) (by decide)) e151 N151 (0 : Int32) (Or.inr ⟨rfl, hc107_237⟩)
      by_cases hc95_238 : (2 : Int32) < (p5 &&& (3 : Int32))
      · refine go _ _ (fun _ k => XS.icmpNo X150.here hx rfl (hb hby at_95) rfl (tlt hc95_238).2.2.2 k) ?_
        show G (T150.setTop (mkF m 98 #[.val (.int p0), .val (.int p1), .val (.int p2), .val (.int p3), .val (.long p4), .second, .val (.int p5), .val (.int (p4.toInt32)), .val (.int (((p4.toUInt64 >>> ((32 : Int32) &&& 0x3f).toInt64.toUInt64).toInt64).toInt32)), .val (.int (p5 &&& (3 : Int32))), .val (.int (((p5.toUInt32 >>> ((2 : Int32) &&& 31).toUInt32).toInt32) &&& (3 : Int32))), .val (.ref b101), .val (.ref b110), .val (.int f_149), .val (.int f_150), .unset, .unset, .unset, .unset, .unset, .unset, .unset] []))
        refine go _ _ (fun _ k => XS.iconst X150.here hx rfl (hb hby at_98) k) ?_
        show G (T150.setTop (mkF m 99 #[.val (.int p0), .val (.int p1), .val (.int p2), .val (.int p3), .val (.long p4), .second, .val (.int p5), .val (.int (p4.toInt32)), .val (.int (((p4.toUInt64 >>> ((32 : Int32) &&& 0x3f).toInt64.toUInt64).toInt64).toInt32)), .val (.int (p5 &&& (3 : Int32))), .val (.int (((p5.toUInt32 >>> ((2 : Int32) &&& 31).toUInt32).toInt32) &&& (3 : Int32))), .val (.ref b101), .val (.ref b110), .val (.int f_149), .val (.int f_150), .unset, .unset, .unset, .unset, .unset, .unset, .unset] [(.int (1 : Int32))]))
        refine go _ _ (fun _ k => XS.goto X150.here hx rfl (pc0 := 99) (pc' := 103) rfl (hb hby at_99) (by decide) (by decide) k) ?_
        show G (T150.setTop (mkF m 103 #[.val (.int p0), .val (.int p1), .val (.int p2), .val (.int p3), .val (.long p4), .second, .val (.int p5), .val (.int (p4.toInt32)), .val (.int (((p4.toUInt64 >>> ((32 : Int32) &&& 0x3f).toInt64.toUInt64).toInt64).toInt32)), .val (.int (p5 &&& (3 : Int32))), .val (.int (((p5.toUInt32 >>> ((2 : Int32) &&& 31).toUInt32).toInt32) &&& (3 : Int32))), .val (.ref b101), .val (.ref b110), .val (.int f_149), .val (.int f_150), .unset, .unset, .unset, .unset, .unset, .unset, .unset] [(.int (1 : Int32))]))
        exact J151 _ _ (X150.more (by decide) (by decide)) e150 N150 (1 : Int32) (Or.inl ⟨rfl, hc95_238⟩)
      · refine go _ _ (fun _ k => XS.icmpYes X150.here hx rfl (pc0 := 95) (pc' := 102) rfl (hb hby at_95) rfl (flt hc95_238).2.2.2 (by decide) (by decide) k) ?_
        show G (T150.setTop (mkF m 102 #[.val (.int p0), .val (.int p1), .val (.int p2), .val (.int p3), .val (.long p4), .second, .val (.int p5), .val (.int (p4.toInt32)), .val (.int (((p4.toUInt64 >>> ((32 : Int32) &&& 0x3f).toInt64.toUInt64).toInt64).toInt32)), .val (.int (p5 &&& (3 : Int32))), .val (.int (((p5.toUInt32 >>> ((2 : Int32) &&& 31).toUInt32).toInt32) &&& (3 : Int32))), .val (.ref b101), .val (.ref b110), .val (.int f_149), .val (.int f_150), .unset, .unset, .unset, .unset, .unset, .unset, .unset] []))
        refine go _ _ (fun _ k => XS.iconst X150.here hx rfl (hb hby at_102) k) ?_
        show G (T150.setTop (mkF m 103 #[.val (.int p0), .val (.int p1), .val (.int p2), .val (.int p3), .val (.long p4), .second, .val (.int p5), .val (.int (p4.toInt32)), .val (.int (((p4.toUInt64 >>> ((32 : Int32) &&& 0x3f).toInt64.toUInt64).toInt64).toInt32)), .val (.int (p5 &&& (3 : Int32))), .val (.int (((p5.toUInt32 >>> ((2 : Int32) &&& 31).toUInt32).toInt32) &&& (3 : Int32))), .val (.ref b101), .val (.ref b110), .val (.int f_149), .val (.int f_150), .unset, .unset, .unset, .unset, .unset, .unset, .unset] [(.int (0 : Int32))]))
        exact J151 _ _ (X150.more (by decide) (by decide)) e150 N150 (0 : Int32) (Or.inr ⟨rfl, hc95_238⟩)
    by_cases hc82_239 : (1 : Int32) < (p5 &&& (3 : Int32))
    · refine go _ _ (fun _ k => XS.icmpNo X149.here hx rfl (hb hby at_82) rfl (tlt hc82_239).2.2.2 k) ?_
      show G (T149.setTop (mkF m 85 #[.val (.int p0), .val (.int p1), .val (.int p2), .val (.int p3), .val (.long p4), .second, .val (.int p5), .val (.int (p4.toInt32)), .val (.int (((p4.toUInt64 >>> ((32 : Int32) &&& 0x3f).toInt64.toUInt64).toInt64).toInt32)), .val (.int (p5 &&& (3 : Int32))), .val (.int (((p5.toUInt32 >>> ((2 : Int32) &&& 31).toUInt32).toInt32) &&& (3 : Int32))), .val (.ref b101), .val (.ref b110), .val (.int f_149), .unset, .unset, .unset, .unset, .unset, .unset, .unset, .unset] []))
      refine go _ _ (fun _ k => XS.iconst X149.here hx rfl (hb hby at_85) k) ?_
      show G (T149.setTop (mkF m 86 #[.val (.int p0), .val (.int p1), .val (.int p2), .val (.int p3), .val (.long p4), .second, .val (.int p5), .val (.int (p4.toInt32)), .val (.int (((p4.toUInt64 >>> ((32 : Int32) &&& 0x3f).toInt64.toUInt64).toInt64).toInt32)), .val (.int (p5 &&& (3 : Int32))), .val (.int (((p5.toUInt32 >>> ((2 : Int32) &&& 31).toUInt32).toInt32) &&& (3 : Int32))), .val (.ref b101), .val (.ref b110), .val (.int f_149), .unset, .unset, .unset, .unset, .unset, .unset, .unset, .unset] [(.int (1 : Int32))]))
      refine go _ _ (fun _ k => XS.goto X149.here hx rfl (pc0 := 86) (pc' := 90) rfl (hb hby at_86) (by decide) (by decide) k) ?_
      show G (T149.setTop (mkF m 90 #[.val (.int p0), .val (.int p1), .val (.int p2), .val (.int p3), .val (.long p4), .second, .val (.int p5), .val (.int (p4.toInt32)), .val (.int (((p4.toUInt64 >>> ((32 : Int32) &&& 0x3f).toInt64.toUInt64).toInt64).toInt32)), .val (.int (p5 &&& (3 : Int32))), .val (.int (((p5.toUInt32 >>> ((2 : Int32) &&& 31).toUInt32).toInt32) &&& (3 : Int32))), .val (.ref b101), .val (.ref b110), .val (.int f_149), .unset, .unset, .unset, .unset, .unset, .unset, .unset, .unset] [(.int (1 : Int32))]))
      exact J150 _ _ (X149.more (by decide) (by decide)) e149 N149 (1 : Int32) (Or.inl ⟨rfl, hc82_239⟩)
    · refine go _ _ (fun _ k => XS.icmpYes X149.here hx rfl (pc0 := 82) (pc' := 89) rfl (hb hby at_82) rfl (flt hc82_239).2.2.2 (by decide) (by decide) k) ?_
      show G (T149.setTop (mkF m 89 #[.val (.int p0), .val (.int p1), .val (.int p2), .val (.int p3), .val (.long p4), .second, .val (.int p5), .val (.int (p4.toInt32)), .val (.int (((p4.toUInt64 >>> ((32 : Int32) &&& 0x3f).toInt64.toUInt64).toInt64).toInt32)), .val (.int (p5 &&& (3 : Int32))), .val (.int (((p5.toUInt32 >>> ((2 : Int32) &&& 31).toUInt32).toInt32) &&& (3 : Int32))), .val (.ref b101), .val (.ref b110), .val (.int f_149), .unset, .unset, .unset, .unset, .unset, .unset, .unset, .unset] []))
      refine go _ _ (fun _ k => XS.iconst X149.here hx rfl (hb hby at_89) k) ?_
      show G (T149.setTop (mkF m 90 #[.val (.int p0), .val (.int p1), .val (.int p2), .val (.int p3), .val (.long p4), .second, .val (.int p5), .val (.int (p4.toInt32)), .val (.int (((p4.toUInt64 >>> ((32 : Int32) &&& 0x3f).toInt64.toUInt64).toInt64).toInt32)), .val (.int (p5 &&& (3 : Int32))), .val (.int (((p5.toUInt32 >>> ((2 : Int32) &&& 31).toUInt32).toInt32) &&& (3 : Int32))), .val (.ref b101), .val (.ref b110), .val (.int f_149), .unset, .unset, .unset, .unset, .unset, .unset, .unset, .unset] [(.int (0 : Int32))]))
      exact J150 _ _ (X149.more (by decide) (by decide)) e149 N149 (0 : Int32) (Or.inr ⟨rfl, hc82_239⟩)
  by_cases hc69_240 : (0 : Int32) < (p5 &&& (3 : Int32))
  · refine go _ _ (fun _ k => XS.ifNo X136.here hx rfl (hb hby at_69) rfl ((if0 _ _).trans (tlt hc69_240).2.2.2) k) ?_
    show G (T136.setTop (mkF m 72 #[.val (.int p0), .val (.int p1), .val (.int p2), .val (.int p3), .val (.long p4), .second, .val (.int p5), .val (.int (p4.toInt32)), .val (.int (((p4.toUInt64 >>> ((32 : Int32) &&& 0x3f).toInt64.toUInt64).toInt64).toInt32)), .val (.int (p5 &&& (3 : Int32))), .val (.int (((p5.toUInt32 >>> ((2 : Int32) &&& 31).toUInt32).toInt32) &&& (3 : Int32))), .val (.ref b101), .val (.ref b110), .unset, .unset, .unset, .unset, .unset, .unset, .unset, .unset, .unset] []))
    refine go _ _ (fun _ k => XS.iconst X136.here hx rfl (hb hby at_72) k) ?_
    show G (T136.setTop (mkF m 73 #[.val (.int p0), .val (.int p1), .val (.int p2), .val (.int p3), .val (.long p4), .second, .val (.int p5), .val (.int (p4.toInt32)), .val (.int (((p4.toUInt64 >>> ((32 : Int32) &&& 0x3f).toInt64.toUInt64).toInt64).toInt32)), .val (.int (p5 &&& (3 : Int32))), .val (.int (((p5.toUInt32 >>> ((2 : Int32) &&& 31).toUInt32).toInt32) &&& (3 : Int32))), .val (.ref b101), .val (.ref b110), .unset, .unset, .unset, .unset, .unset, .unset, .unset, .unset, .unset] [(.int (1 : Int32))]))
    refine go _ _ (fun _ k => XS.goto X136.here hx rfl (pc0 := 73) (pc' := 77) rfl (hb hby at_73) (by decide) (by decide) k) ?_
    show G (T136.setTop (mkF m 77 #[.val (.int p0), .val (.int p1), .val (.int p2), .val (.int p3), .val (.long p4), .second, .val (.int p5), .val (.int (p4.toInt32)), .val (.int (((p4.toUInt64 >>> ((32 : Int32) &&& 0x3f).toInt64.toUInt64).toInt64).toInt32)), .val (.int (p5 &&& (3 : Int32))), .val (.int (((p5.toUInt32 >>> ((2 : Int32) &&& 31).toUInt32).toInt32) &&& (3 : Int32))), .val (.ref b101), .val (.ref b110), .unset, .unset, .unset, .unset, .unset, .unset, .unset, .unset, .unset] [(.int (1 : Int32))]))
    exact J149 _ _ (X136.more (by decide) (by decide)) rfl N136 (1 : Int32) (Or.inl ⟨rfl, hc69_240⟩)
  · refine go _ _ (fun _ k => XS.ifYes X136.here hx rfl (pc0 := 69) (pc' := 76) rfl (hb hby at_69) rfl ((if0 _ _).trans (flt hc69_240).2.2.2) (by decide) (by decide) k) ?_
    show G (T136.setTop (mkF m 76 #[.val (.int p0), .val (.int p1), .val (.int p2), .val (.int p3), .val (.long p4), .second, .val (.int p5), .val (.int (p4.toInt32)), .val (.int (((p4.toUInt64 >>> ((32 : Int32) &&& 0x3f).toInt64.toUInt64).toInt64).toInt32)), .val (.int (p5 &&& (3 : Int32))), .val (.int (((p5.toUInt32 >>> ((2 : Int32) &&& 31).toUInt32).toInt32) &&& (3 : Int32))), .val (.ref b101), .val (.ref b110), .unset, .unset, .unset, .unset, .unset, .unset, .unset, .unset, .unset] []))
    refine go _ _ (fun _ k => XS.iconst X136.here hx rfl (hb hby at_76) k) ?_
    show G (T136.setTop (mkF m 77 #[.val (.int p0), .val (.int p1), .val (.int p2), .val (.int p3), .val (.long p4), .second, .val (.int p5), .val (.int (p4.toInt32)), .val (.int (((p4.toUInt64 >>> ((32 : Int32) &&& 0x3f).toInt64.toUInt64).toInt64).toInt32)), .val (.int (p5 &&& (3 : Int32))), .val (.int (((p5.toUInt32 >>> ((2 : Int32) &&& 31).toUInt32).toInt32) &&& (3 : Int32))), .val (.ref b101), .val (.ref b110), .unset, .unset, .unset, .unset, .unset, .unset, .unset, .unset, .unset] [(.int (0 : Int32))]))
    exact J149 _ _ (X136.more (by decide) (by decide)) rfl N136 (0 : Int32) (Or.inr ⟨rfl, hc69_240⟩)
set_option maxRecDepth 65536 in
set_option maxHeartbeats 40000000 in
theorem comes_1 {Post : Tables → Env → Array Value → State → Outcome → State → Prop} (hpost : ∀ tb e args s v u, (limb_1_1.after args s (.returned v) u = true ∧ limb_1_2.after args s (.returned v) u = true ∧ True) → FrameEnd s (.returned v) u (Jvm.fieldLocs frame_1_writes args s ++ Jvm.arrayLocs frame_1_arrays args s ++ Jvm.staticLocs frame_1_statics s) 40 128 → Post tb e args s (.returned v) u) :
    ArmFor flags0 classFile x code maxLocals ret World_1 tables_1 room_1 Calls_1 rest_1 Pre_1 Post := by
  intro l hfl _ _ p e ha hc hk s m args below hf hA hF happ hP
  obtain ⟨hcalls, hrest, hpre⟩ := hP
  obtain ⟨-, -, -, hnamed, -, -, -, hat⟩ := (Spec.applies_iff hf).mp happ
  obtain ⟨hg, hn⟩ := and_e (Cond.before_iff.mp (show (Jvm.Cond.and given_1 narrow_1).before args s = true from hpre))
  obtain ⟨h1, g0⟩ := and_e hg
  obtain ⟨ga0, g1⟩ := and_e g0
  obtain ⟨ga1, g2⟩ := and_e g1
  obtain ⟨ga2, g3⟩ := and_e g2
  obtain ⟨ga3, g4⟩ := and_e g3
  obtain ⟨ga4, g5⟩ := and_e g4
  have ga5 := g5
  obtain ⟨w0, w1, w2, w3, w4, w5, rfl⟩ : ∃ w0 w1 w2 w3 w4 w5 : Value, args = #[w0, w1, w2, w3, w4, w5] := by
    have hs : args.size = 6 := by simpa [Cond.value, given_1] using h1
    obtain ⟨L⟩ := args
    match L, hs with
    | [w0, w1, w2, w3, w4, w5], _ => exact ⟨w0, w1, w2, w3, w4, w5, rfl⟩
  have hw := fun d (hd : d ∈ tables_1) => atoms_spec (ws := Jvm.Cond.code x code maxLocals ret :: tables_1) hat d (List.mem_cons_of_mem _ hd)
  have hfit : Fit s := fun {y c} hc i hi => by
    obtain ⟨ha, rfl⟩ := Array.getElem?_eq_some_iff.mp hc
    have q := List.all_eq_true.mp ((Array.all_eq_true_iff_forall_mem.mp hF) _ (Array.getElem_mem ha)) i (List.mem_range.mpr hi)
    simpa [Array.getElem?_eq_getElem hi] using q
  obtain ⟨i0, ea0⟩ := is_v ga0
  obtain rfl : w0 = (.int i0) := Option.some.inj ea0
  obtain ⟨i1, ea1⟩ := is_v ga1
  obtain rfl : w1 = (.int i1) := Option.some.inj ea1
  obtain ⟨i2, ea2⟩ := is_v ga2
  obtain rfl : w2 = (.int i2) := Option.some.inj ea2
  obtain ⟨i3, ea3⟩ := is_v ga3
  obtain rfl : w3 = (.int i3) := Option.some.inj ea3
  obtain ⟨i4, ea4⟩ := isL_v ga4
  obtain rfl : w4 = (.long i4) := Option.some.inj ea4
  obtain ⟨i5, ea5⟩ := is_v ga5
  obtain rfl : w5 = (.int i5) := Option.some.inj ea5
  obtain ⟨n1, m1⟩ := and_e hn
  obtain ⟨n2, m2⟩ := and_e m1
  obtain ⟨n3, m3⟩ := and_e m2
  obtain ⟨n4, m4⟩ := and_e m3
  obtain ⟨n5, n6⟩ := and_e m4
  obtain ⟨u_nk, ev_nk⟩ := own_exa_v n2
  have S_nk : Sta s s.heap "com/example/hatoyama/hatoyama/IndexSet" "NO_KEYS" "[I" (.ref u_nk) := Sta.start ev_nk (Or.inr ⟨(ow hw 2 rfl), (ow hw 10 rfl)⟩)
  obtain ⟨c_nk, A_nk⟩ := Arr.start ev_nk n1
  have V_nk := own_arv0 (d := (.int (0 : Int32))) hfit ev_nk A_nk n3
  obtain ⟨u_nw, ev_nw⟩ := own_exa_v n5
  have S_nw : Sta s s.heap "com/example/hatoyama/hatoyama/IndexSet" "NO_WORDS" "[J" (.ref u_nw) := Sta.start ev_nw (Or.inr ⟨(ow hw 2 rfl), (ow hw 14 rfl)⟩)
  obtain ⟨c_nw, A_nw⟩ := Arr.start ev_nw n4
  have V_nw := own_arv0 (d := (.long (0 : Int64))) hfit ev_nw A_nw n6
  obtain ⟨n, o, h1, h2, h3, v, L, rfl, ⟨N, -, q⟩, hq⟩ := rmLaw l s _ hw u_nk c_nk.cls S_nk V_nk u_nw c_nw.cls S_nw V_nw tables_1 i0 i1 i2 i3 i4 i5 s.heap s.heap.size (Nat.le_refl _) (Old.start s) p e ha hc hk s m _ below hf ((Spec.applies_iff_loose hf).mp happ).1 ⟨rfl, State.Warmed39.refl s, rfl⟩ trivial
  subst q
  refine ⟨n, _, h1, h2, h3, hpost _ _ _ _ _ _ ⟨Cond.after_iff.mpr rfl, Cond.after_iff.mpr (eq_i res_at (Term.int_eval (1)) rfl), trivial⟩ ⟨hq.1, hq.2.1, (hq.2.2.sift fun y hy => Or.inr (N y hy)).mono (by decide) (by decide)⟩⟩
theorem main_1_1 : Claimed_1_1 := comes_1 fun _ _ _ _ _ _ h hF => ⟨h.1, hF⟩
theorem main_1_2 : Claimed_1_2 := comes_1 fun _ _ _ _ _ _ h hF => ⟨h.2.1, hF⟩
end Jvm.Pilot.@@N@@
namespace Jvm.Pilot.@@N@@
open Jvm Jvm.ClassFile Sem Op Lib Jvm.Free Jvm.Stand Jvm.Pilot.@@N@@.Jvm.D
/-! MADE BY PROGRAM (witnessworld.py) out of the Statement's table words and the real class files: 14 classes; the members and pool entries that the words name. The judged class is class 1, her method 3. -/
namespace start1
open Jvm.ClassFile
def u (s : String) : CpInfo := .utf8 (stringToUtf16 s)
/-- a pool by its gaps: so many unusable entries, then the entry; so many at the end -/
def gap : Nat → List CpInfo → List CpInfo
  | 0, r => r
  | n + 1, r => .unusable :: gap n r
def poolList (es : List (Nat × CpInfo)) (last : Nat) : List CpInfo := es.foldr (fun e r => gap e.1 (e.2 :: r)) (gap last [])
def pool (es : List (Nat × CpInfo)) (last : Nat) : Array CpInfo := ⟨poolList es last⟩
def fileOf (pool : Array CpInfo) (this : Nat) (attrs : Array Attribute := #[]) (ms : Array MethodInfo := #[]) (fl : Nat := 33) (sup : Nat := 0) (ifs : Array Nat := #[]) (fds : Array FieldInfo := #[]) : ClassFile where
  minorVersion := 0
  majorVersion := 65
  constantPool := pool
  accessFlags := fl
  thisClass := this
  superClass := sup
  interfaces := ifs
  fields := fds
  methods := ms
  attributes := attrs
def plain (name : String) (sup : Option ClassId) : Class where
  name := name
  kind := .ordinary
  loader := none
  accessFlags := 33
  super := sup
  interfaces := #[]
  cf := none
  fields := #[]
  methods := #[]
  instanceTypes := #[]
  staticTypes := #[]
  resolved := #[]
  callSites := []
  init := .initialized
  statics := none
  mirror := none

def pool0 : Array CpInfo := pool [(5, u "<init>"), (0, u "()V"), (1, .class_ 10), (1, u "java/lang/Object")] 113

def k0c0 : Code := { maxStack := 0, maxLocals := 1, code := object_method_1_code, exceptionTable := #[], attributes := #[] }
def k0m0 : Method := { name := "<init>", desc := "()V", sig := { parameters := [], returnType := none }, accessFlags := 1, code := some k0c0 }
/-- java/lang/Object -/
def k0 : Class := { plain "java/lang/Object" none with
  accessFlags := 33
  interfaces := #[]
  cf := some (fileOf pool0 8 #[] #[{ accessFlags := 1, nameIndex := 5, descriptorIndex := 6, attributes := #[] }] 33 0 #[] #[])
  fields := #[]
  methods := #[k0m0]
  instanceTypes := #[]
  staticTypes := #[]
  resolved := Array.replicate 124 none
  statics := none }

def pool1 : Array CpInfo := pool [(2, .class_ 4), (0, .nameAndType 5 6), (0, u "java/lang/Object"), (0, u "<init>"), (0, u "()V"), (0, .methodref 8 9), (0, .class_ 10), (0, .nameAndType 11 12), (0, u "com/example/hatoyama/hatoyama/IndexSet"), (0, u "add"), (0, u "(I)V"), (0, .methodref 8 3), (0, .methodref 15 16), (0, .class_ 17), (0, .nameAndType 18 19), (0, u "com/example/hatoyama/hatoyama/IndexSetIntersectsPinLaw"), (0, u "fill"), (0, u "(Lcom/example/hatoyama/hatoyama/IndexSet;IIII)V"), (0, .methodref 15 21), (0, .nameAndType 22 23), (0, u "pair"), (0, u "(ZIZI)Z"), (0, .methodref 8 25), (0, .nameAndType 26 27), (0, u "intersects"), (0, u "(Lcom/example/hatoyama/hatoyama/IndexSet;)Z"), (3, u "law"), (0, u "(IIIIJI)Z")] 2

def k1m0 : Method := { name := "<init>", desc := "()V", sig := { parameters := [], returnType := none }, accessFlags := 2, code := none }
def k1c1 : Code := { maxStack := 2, maxLocals := 4, code := method_2_code, exceptionTable := #[], attributes := #[] }
def k1m1 : Method := { name := "pair", desc := "(ZIZI)Z", sig := { parameters := [.boolean, .int, .boolean, .int], returnType := some .boolean }, accessFlags := 10, code := some k1c1 }
def k1c2 : Code := { maxStack := 2, maxLocals := 5, code := method_3_code, exceptionTable := #[], attributes := #[] }
def k1m2 : Method := { name := "fill", desc := "(Lcom/example/hatoyama/hatoyama/IndexSet;IIII)V", sig := { parameters := [(.object "com/example/hatoyama/hatoyama/IndexSet"), .int, .int, .int, .int], returnType := none }, accessFlags := 10, code := some k1c2 }
def k1c3 : Code := { maxStack := 5, maxLocals := 22, code := code, exceptionTable := #[], attributes := #[] }
def k1m3 : Method := { name := "law", desc := "(IIIIJI)Z", sig := { parameters := [.int, .int, .int, .int, .long, .int], returnType := some .boolean }, accessFlags := 9, code := some k1c3 }
/-- com/example/hatoyama/hatoyama/IndexSetIntersectsPinLaw -/
def k1 : Class := { plain "com/example/hatoyama/hatoyama/IndexSetIntersectsPinLaw" (some 0) with
  accessFlags := 49
  interfaces := #[]
  cf := some (fileOf pool1 15 #[] #[{ accessFlags := 2, nameIndex := 5, descriptorIndex := 6, attributes := #[] }, { accessFlags := 10, nameIndex := 22, descriptorIndex := 23, attributes := #[] }, { accessFlags := 10, nameIndex := 18, descriptorIndex := 19, attributes := #[] }, { accessFlags := 9, nameIndex := 31, descriptorIndex := 32, attributes := #[] }] 49 2 #[] #[])
  fields := #[]
  methods := #[k1m0, k1m1, k1m2, k1m3]
  instanceTypes := #[]
  staticTypes := #[]
  resolved := Array.replicate 35 none
  statics := none }

def pool2 : Array CpInfo := pool [(1, .methodref 2 3), (0, .class_ 4), (0, .nameAndType 5 6), (0, u "java/lang/Object"), (0, u "<init>"), (0, u "()V"), (0, .fieldref 8 9), (0, .class_ 10), (0, .nameAndType 11 12), (0, u "com/example/hatoyama/hatoyama/IndexSet"), (0, u "NO_KEYS"), (0, u "[I"), (0, .fieldref 8 14), (0, .nameAndType 15 12), (0, u "keys"), (0, .fieldref 8 17), (0, .nameAndType 18 19), (0, u "NO_WORDS"), (0, u "[J"), (0, .fieldref 8 21), (0, .nameAndType 22 19), (0, u "words"), (1, .fieldref 8 25), (0, .nameAndType 26 27), (0, u "used"), (0, u "I"), (0, .methodref 29 30), (0, .class_ 31), (0, .nameAndType 32 33), (0, u "java/util/Arrays"), (0, u "copyOf"), (0, u "([II)[I"), (0, .methodref 29 35), (0, .nameAndType 32 36), (0, u "([JI)[J"), (0, .methodref 29 38), (0, .nameAndType 39 40), (0, u "binarySearch"), (0, u "([IIII)I"), (0, .methodref 8 42), (0, .nameAndType 43 44), (0, u "room"), (0, u "(I)V"), (0, .methodref 46 47), (0, .class_ 48), (0, .nameAndType 49 50), (0, u "java/lang/System"), (0, u "arraycopy"), (0, u "(Ljava/lang/Object;ILjava/lang/Object;II)V"), (10, .methodref 62 63), (0, .class_ 64), (0, .nameAndType 65 66), (0, u "java/lang/Math"), (0, u "max"), (0, u "(II)I"), (18, u "add"), (2, u "intersects"), (0, u "(Lcom/example/hatoyama/hatoyama/IndexSet;)Z")] 5

def k2c0 : Code := { maxStack := 2, maxLocals := 1, code := prog_3_method_1_code, exceptionTable := #[], attributes := #[] }
def k2m0 : Method := { name := "<init>", desc := "()V", sig := { parameters := [], returnType := none }, accessFlags := 0, code := some k2c0 }
def k2c1 : Code := { maxStack := 7, maxLocals := 4, code := prog_3_method_4_code, exceptionTable := #[], attributes := #[] }
def k2m1 : Method := { name := "add", desc := "(I)V", sig := { parameters := [.int], returnType := none }, accessFlags := 0, code := some k2c1 }
def k2c2 : Code := { maxStack := 4, maxLocals := 5, code := prog_3_method_7_code, exceptionTable := #[], attributes := #[] }
def k2m2 : Method := { name := "intersects", desc := "(Lcom/example/hatoyama/hatoyama/IndexSet;)Z", sig := { parameters := [(.object "com/example/hatoyama/hatoyama/IndexSet")], returnType := some .boolean }, accessFlags := 0, code := some k2c2 }
def k2c3 : Code := { maxStack := 4, maxLocals := 3, code := prog_3_method_10_code, exceptionTable := #[], attributes := #[] }
def k2m3 : Method := { name := "room", desc := "(I)V", sig := { parameters := [.int], returnType := none }, accessFlags := 2, code := some k2c3 }
/-- com/example/hatoyama/hatoyama/IndexSet -/
def k2 : Class := { plain "com/example/hatoyama/hatoyama/IndexSet" (some 0) with
  accessFlags := 48
  interfaces := #[]
  cf := some (fileOf pool2 8 #[] #[{ accessFlags := 0, nameIndex := 5, descriptorIndex := 6, attributes := #[] }, { accessFlags := 0, nameIndex := 85, descriptorIndex := 44, attributes := #[] }, { accessFlags := 0, nameIndex := 88, descriptorIndex := 89, attributes := #[] }, { accessFlags := 2, nameIndex := 43, descriptorIndex := 44, attributes := #[] }] 48 2 #[] #[{ accessFlags := 26, nameIndex := 11, descriptorIndex := 12, attributes := #[] }, { accessFlags := 26, nameIndex := 18, descriptorIndex := 19, attributes := #[] }, { accessFlags := 2, nameIndex := 15, descriptorIndex := 12, attributes := #[] }, { accessFlags := 2, nameIndex := 22, descriptorIndex := 19, attributes := #[] }, { accessFlags := 2, nameIndex := 26, descriptorIndex := 27, attributes := #[] }])
  fields := #[{ name := "NO_KEYS", type := (.array .int), accessFlags := 26, slot := 0, constantValue := 0 }, { name := "NO_WORDS", type := (.array .long), accessFlags := 26, slot := 1, constantValue := 0 }, { name := "keys", type := (.array .int), accessFlags := 2, slot := 0, constantValue := 0 }, { name := "words", type := (.array .long), accessFlags := 2, slot := 1, constantValue := 0 }, { name := "used", type := .int, accessFlags := 2, slot := 2, constantValue := 0 }]
  methods := #[k2m0, k2m1, k2m2, k2m3]
  instanceTypes := #[(.array .int), (.array .long), .int]
  staticTypes := #[(.array .int), (.array .long)]
  resolved := Array.replicate 95 none
  statics := some 0 }

def pool3 : Array CpInfo := pool [(2, .class_ 4), (1, u "java/lang/Object"), (0, u "<init>"), (0, u "()V"), (6, .methodref 14 15), (0, .class_ 16), (0, .nameAndType 17 18), (0, u "java/util/Arrays"), (0, u "rangeCheck"), (0, u "(III)V"), (55, .class_ 76), (1, u "java/util/Arrays$NaturalOrder"), (36, .class_ 115), (1, u "java/util/Arrays$LegacyMergeSort"), (1, u "Z"), (32, .methodref 151 152), (0, .class_ 153), (0, .nameAndType 154 155), (0, u "java/lang/System"), (0, u "arraycopy"), (0, u "(Ljava/lang/Object;ILjava/lang/Object;II)V"), (51, u "binarySearch0"), (1, .methodref 14 210), (0, .nameAndType 207 211), (0, u "([IIII)I"), (90, u "copyOf"), (1, .methodref 305 306), (0, .class_ 307), (0, .nameAndType 308 309), (0, u "java/lang/Math"), (0, u "min"), (0, u "(II)I"), (65, .class_ 376), (0, u "java/util/Arrays$ArrayList"), (68, u "$assertionsDisabled"), (269, u "MIN_ARRAY_SORT_GRAN"), (0, u "I"), (2, u "INSERTIONSORT_THRESHOLD"), (74, u "binarySearch"), (76, u "([II)[I"), (0, u "([JI)[J"), (102, .class_ 976), (0, u "java/util/Arrays$ArrayItr")] 52

def k3m0 : Method := { name := "<init>", desc := "()V", sig := { parameters := [], returnType := none }, accessFlags := 2, code := none }
def k3c1 : Code := { maxStack := 4, maxLocals := 3, code := jdk_65_method_30_code, exceptionTable := #[], attributes := #[] }
def k3m1 : Method := { name := "rangeCheck", desc := "(III)V", sig := { parameters := [.int, .int, .int], returnType := none }, accessFlags := 8, code := some k3c1 }
def k3c2 : Code := { maxStack := 4, maxLocals := 4, code := jdk_65_method_58_code, exceptionTable := #[], attributes := #[] }
def k3m2 : Method := { name := "binarySearch", desc := "([IIII)I", sig := { parameters := [(.array .int), .int, .int, .int], returnType := some .int }, accessFlags := 9, code := some k3c2 }
def k3c3 : Code := { maxStack := 2, maxLocals := 8, code := jdk_65_method_59_code, exceptionTable := #[], attributes := #[] }
def k3m3 : Method := { name := "binarySearch0", desc := "([IIII)I", sig := { parameters := [(.array .int), .int, .int, .int], returnType := some .int }, accessFlags := 10, code := some k3c3 }
def k3c4 : Code := { maxStack := 6, maxLocals := 3, code := jdk_65_method_123_code, exceptionTable := #[], attributes := #[] }
def k3m4 : Method := { name := "copyOf", desc := "([II)[I", sig := { parameters := [(.array .int), .int], returnType := some (.array .int) }, accessFlags := 9, code := some k3c4 }
def k3c5 : Code := { maxStack := 6, maxLocals := 3, code := jdk_65_method_124_code, exceptionTable := #[], attributes := #[] }
def k3m5 : Method := { name := "copyOf", desc := "([JI)[J", sig := { parameters := [(.array .long), .int], returnType := some (.array .long) }, accessFlags := 9, code := some k3c5 }
/-- java/util/Arrays -/
def k3 : Class := { plain "java/util/Arrays" (some 0) with
  accessFlags := 49
  interfaces := #[]
  cf := some (fileOf pool3 14 #[.nestMembers #[975, 375, 113, 74]] #[{ accessFlags := 2, nameIndex := 5, descriptorIndex := 6, attributes := #[] }, { accessFlags := 8, nameIndex := 17, descriptorIndex := 18, attributes := #[] }, { accessFlags := 9, nameIndex := 794, descriptorIndex := 211, attributes := #[] }, { accessFlags := 10, nameIndex := 207, descriptorIndex := 211, attributes := #[] }, { accessFlags := 9, nameIndex := 302, descriptorIndex := 871, attributes := #[] }, { accessFlags := 9, nameIndex := 302, descriptorIndex := 872, attributes := #[] }] 49 2 #[] #[{ accessFlags := 26, nameIndex := 715, descriptorIndex := 716, attributes := #[] }, { accessFlags := 26, nameIndex := 719, descriptorIndex := 716, attributes := #[] }, { accessFlags := 4120, nameIndex := 445, descriptorIndex := 117, attributes := #[] }])
  fields := #[{ name := "MIN_ARRAY_SORT_GRAN", type := .int, accessFlags := 26, slot := 0, constantValue := 0 }, { name := "INSERTIONSORT_THRESHOLD", type := .int, accessFlags := 26, slot := 1, constantValue := 0 }, { name := "$assertionsDisabled", type := .boolean, accessFlags := 4120, slot := 2, constantValue := 0 }]
  methods := #[k3m0, k3m1, k3m2, k3m3, k3m4, k3m5]
  instanceTypes := #[]
  staticTypes := #[.int, .int, .boolean]
  resolved := Array.replicate 1029 none
  statics := none }

def pool4 : Array CpInfo := pool [(1, .class_ 2), (0, u "java/lang/Math"), (1, .class_ 6), (1, u "java/lang/Object"), (0, u "<init>"), (0, u "()V"), (89, .class_ 100), (1, u "java/lang/Math$RandomNumberGeneratorHolder"), (71, u "negativeZeroFloatBits"), (0, u "J"), (2, u "negativeZeroDoubleBits"), (21, u "max"), (2, u "min"), (43, u "$assertionsDisabled"), (0, u "Z"), (88, u "(II)I"), (2, u "twoToTheDoubleScaleDown"), (0, u "D"), (4, u "twoToTheDoubleScaleUp"), (9, u "E"), (3, u "PI"), (2, u "TAU"), (2, u "DEGREES_TO_RADIANS"), (0, u "RADIANS_TO_DEGREES")] 94

def k4m0 : Method := { name := "<init>", desc := "()V", sig := { parameters := [], returnType := none }, accessFlags := 2, code := none }
def k4c1 : Code := { maxStack := 2, maxLocals := 2, code := jdk_29_method_65_code, exceptionTable := #[], attributes := #[] }
def k4m1 : Method := { name := "max", desc := "(II)I", sig := { parameters := [.int, .int], returnType := some .int }, accessFlags := 9, code := some k4c1 }
def k4c2 : Code := { maxStack := 2, maxLocals := 2, code := jdk_29_method_69_code, exceptionTable := #[], attributes := #[] }
def k4m2 : Method := { name := "min", desc := "(II)I", sig := { parameters := [.int, .int], returnType := some .int }, accessFlags := 9, code := some k4c2 }
/-- java/lang/Math -/
def k4 : Class := { plain "java/lang/Math" (some 0) with
  accessFlags := 49
  interfaces := #[]
  cf := some (fileOf pool4 1 #[.nestMembers #[98]] #[{ accessFlags := 2, nameIndex := 7, descriptorIndex := 8, attributes := #[] }, { accessFlags := 9, nameIndex := 198, descriptorIndex := 335, attributes := #[] }, { accessFlags := 9, nameIndex := 201, descriptorIndex := 335, attributes := #[] }] 49 4 #[] #[{ accessFlags := 25, nameIndex := 354, descriptorIndex := 339, attributes := #[] }, { accessFlags := 25, nameIndex := 358, descriptorIndex := 339, attributes := #[] }, { accessFlags := 25, nameIndex := 361, descriptorIndex := 339, attributes := #[] }, { accessFlags := 26, nameIndex := 364, descriptorIndex := 339, attributes := #[] }, { accessFlags := 26, nameIndex := 365, descriptorIndex := 339, attributes := #[] }, { accessFlags := 26, nameIndex := 172, descriptorIndex := 173, attributes := #[] }, { accessFlags := 26, nameIndex := 176, descriptorIndex := 173, attributes := #[] }, { accessFlags := 8, nameIndex := 344, descriptorIndex := 339, attributes := #[] }, { accessFlags := 8, nameIndex := 338, descriptorIndex := 339, attributes := #[] }, { accessFlags := 4120, nameIndex := 245, descriptorIndex := 246, attributes := #[] }])
  fields := #[{ name := "E", type := .double, accessFlags := 25, slot := 0, constantValue := 0 }, { name := "PI", type := .double, accessFlags := 25, slot := 1, constantValue := 0 }, { name := "TAU", type := .double, accessFlags := 25, slot := 2, constantValue := 0 }, { name := "DEGREES_TO_RADIANS", type := .double, accessFlags := 26, slot := 3, constantValue := 0 }, { name := "RADIANS_TO_DEGREES", type := .double, accessFlags := 26, slot := 4, constantValue := 0 }, { name := "negativeZeroFloatBits", type := .long, accessFlags := 26, slot := 5, constantValue := 0 }, { name := "negativeZeroDoubleBits", type := .long, accessFlags := 26, slot := 6, constantValue := 0 }, { name := "twoToTheDoubleScaleUp", type := .double, accessFlags := 8, slot := 7, constantValue := 0 }, { name := "twoToTheDoubleScaleDown", type := .double, accessFlags := 8, slot := 8, constantValue := 0 }, { name := "$assertionsDisabled", type := .boolean, accessFlags := 4120, slot := 9, constantValue := 0 }]
  methods := #[k4m0, k4m1, k4m2]
  instanceTypes := #[]
  staticTypes := #[.double, .double, .double, .double, .double, .long, .long, .double, .double, .boolean]
  resolved := Array.replicate 460 none
  statics := none }

def pool5 : Array CpInfo := pool [(2, .class_ 4), (1, u "java/lang/Object"), (0, u "<init>"), (0, u "()V"), (1, .class_ 10), (1, u "java/lang/System"), (0, u "allowSecurityManager"), (0, u "I"), (16, u "cons"), (0, u "Ljava/io/Console;"), (77, .class_ 110), (1, u "java/lang/System$CallersHolder"), (43, u "initialErrStream"), (0, u "Ljava/io/PrintStream;"), (19, u "security"), (0, u "Ljava/lang/SecurityManager;"), (31, .class_ 209), (0, u "java/lang/System$1"), (7, u "props"), (0, u "Ljava/util/Properties;"), (2, u "lineSeparator"), (0, u "Ljava/lang/String;"), (96, .class_ 321), (1, u "java/lang/System$LoggerFinder"), (5, .class_ 328), (0, u "java/lang/System$Logger"), (67, u "err"), (2, u "out"), (91, u "notSupportedJnuEncoding"), (15, u "in"), (17, u "initialIn"), (0, u "Ljava/io/InputStream;"), (35, u "bootLayer"), (0, u "Ljava/lang/ModuleLayer;"), (99, .class_ 664), (0, u "java/lang/System$2"), (9, u "NEVER"), (2, u "MAYBE"), (49, u "arraycopy"), (0, u "(Ljava/lang/Object;ILjava/lang/Object;II)V"), (72, .class_ 802), (0, u "java/lang/System$Logger$Level")] 31

def k5m0 : Method := { name := "<init>", desc := "()V", sig := { parameters := [], returnType := none }, accessFlags := 2, code := none }
def k5m1 : Method := { name := "arraycopy", desc := "(Ljava/lang/Object;ILjava/lang/Object;II)V", sig := { parameters := [(.object "java/lang/Object"), .int, (.object "java/lang/Object"), .int, .int], returnType := none }, accessFlags := 265, code := none }
/-- java/lang/System -/
def k5 : Class := { plain "java/lang/System" (some 0) with
  accessFlags := 49
  interfaces := #[]
  cf := some (fileOf pool5 8 #[.nestMembers #[319, 327, 801, 108, 663, 208]] #[{ accessFlags := 2, nameIndex := 5, descriptorIndex := 6, attributes := #[] }, { accessFlags := 265, nameIndex := 727, descriptorIndex := 728, attributes := #[] }] 49 2 #[] #[{ accessFlags := 25, nameIndex := 507, descriptorIndex := 526, attributes := #[] }, { accessFlags := 25, nameIndex := 399, descriptorIndex := 155, attributes := #[] }, { accessFlags := 25, nameIndex := 396, descriptorIndex := 155, attributes := #[] }, { accessFlags := 10, nameIndex := 525, descriptorIndex := 526, attributes := #[] }, { accessFlags := 26, nameIndex := 674, descriptorIndex := 12, attributes := #[] }, { accessFlags := 26, nameIndex := 677, descriptorIndex := 12, attributes := #[] }, { accessFlags := 10, nameIndex := 11, descriptorIndex := 12, attributes := #[] }, { accessFlags := 74, nameIndex := 175, descriptorIndex := 176, attributes := #[] }, { accessFlags := 10, nameIndex := 491, descriptorIndex := 222, attributes := #[] }, { accessFlags := 74, nameIndex := 29, descriptorIndex := 30, attributes := #[] }, { accessFlags := 74, nameIndex := 154, descriptorIndex := 155, attributes := #[] }, { accessFlags := 10, nameIndex := 217, descriptorIndex := 218, attributes := #[] }, { accessFlags := 10, nameIndex := 221, descriptorIndex := 222, attributes := #[] }, { accessFlags := 8, nameIndex := 562, descriptorIndex := 563, attributes := #[] }])
  fields := #[{ name := "in", type := (.object "java/io/InputStream"), accessFlags := 25, slot := 0, constantValue := 0 }, { name := "out", type := (.object "java/io/PrintStream"), accessFlags := 25, slot := 1, constantValue := 0 }, { name := "err", type := (.object "java/io/PrintStream"), accessFlags := 25, slot := 2, constantValue := 0 }, { name := "initialIn", type := (.object "java/io/InputStream"), accessFlags := 10, slot := 3, constantValue := 0 }, { name := "NEVER", type := .int, accessFlags := 26, slot := 4, constantValue := 0 }, { name := "MAYBE", type := .int, accessFlags := 26, slot := 5, constantValue := 0 }, { name := "allowSecurityManager", type := .int, accessFlags := 10, slot := 6, constantValue := 0 }, { name := "security", type := (.object "java/lang/SecurityManager"), accessFlags := 74, slot := 7, constantValue := 0 }, { name := "notSupportedJnuEncoding", type := (.object "java/lang/String"), accessFlags := 10, slot := 8, constantValue := 0 }, { name := "cons", type := (.object "java/io/Console"), accessFlags := 74, slot := 9, constantValue := 0 }, { name := "initialErrStream", type := (.object "java/io/PrintStream"), accessFlags := 74, slot := 10, constantValue := 0 }, { name := "props", type := (.object "java/util/Properties"), accessFlags := 10, slot := 11, constantValue := 0 }, { name := "lineSeparator", type := (.object "java/lang/String"), accessFlags := 10, slot := 12, constantValue := 0 }, { name := "bootLayer", type := (.object "java/lang/ModuleLayer"), accessFlags := 8, slot := 13, constantValue := 0 }]
  methods := #[k5m0, k5m1]
  instanceTypes := #[]
  staticTypes := #[(.object "java/io/InputStream"), (.object "java/io/PrintStream"), (.object "java/io/PrintStream"), (.object "java/io/InputStream"), .int, .int, .int, (.object "java/lang/SecurityManager"), (.object "java/lang/String"), (.object "java/io/Console"), (.object "java/io/PrintStream"), (.object "java/util/Properties"), (.object "java/lang/String"), (.object "java/lang/ModuleLayer")]
  resolved := Array.replicate 834 none
  statics := none }

def pool6 : Array CpInfo := pool [(1, u "java/lang/Cloneable"), (0, .class_ 1), (0, u "java/lang/Object"), (0, .class_ 3)] 3

/-- java/lang/Cloneable -/
def k6 : Class := { plain "java/lang/Cloneable" (some 0) with
  accessFlags := 1537
  interfaces := #[]
  cf := some (fileOf pool6 2 #[] #[] 1537 4 #[] #[])
  fields := #[]
  methods := #[]
  instanceTypes := #[]
  staticTypes := #[]
  resolved := Array.replicate 8 none
  statics := none }

def pool7 : Array CpInfo := pool [(1, u "java/io/Serializable"), (0, .class_ 1), (0, u "java/lang/Object"), (0, .class_ 3)] 3

/-- java/io/Serializable -/
def k7 : Class := { plain "java/io/Serializable" (some 0) with
  accessFlags := 1537
  interfaces := #[]
  cf := some (fileOf pool7 2 #[] #[] 1537 4 #[] #[])
  fields := #[]
  methods := #[]
  instanceTypes := #[]
  staticTypes := #[]
  resolved := Array.replicate 8 none
  statics := none }

/-- the primitive byte -/
def k8 : Class := { plain "byte" none with kind := .primitive 'B', accessFlags := 0x411 }
/-- [B -/
def k9 : Class := { plain "[B" (some 0) with kind := .array 8 .byte, interfaces := #[6, 7], accessFlags := 1041 }

/-- the primitive int -/
def k10 : Class := { plain "int" none with kind := .primitive 'I', accessFlags := 0x411 }
/-- [I -/
def k11 : Class := { plain "[I" (some 0) with kind := .array 10 .int, interfaces := #[6, 7], accessFlags := 1041 }

/-- the primitive long -/
def k12 : Class := { plain "long" none with kind := .primitive 'J', accessFlags := 0x411 }
/-- [J -/
def k13 : Class := { plain "[J" (some 0) with kind := .array 12 .long, interfaces := #[6, 7], accessFlags := 1041 }

def heap : Heap := #[{ cls := 2, slots := #[.ref 1, .ref 2], vm := .statics 2 },
  { cls := 11, slots := #[], vm := .none },
  { cls := 13, slots := #[], vm := .none }]
def classes : Array Class := #[k0, k1, k2, k3, k4, k5, k6, k7, k8, k9, k10, k11, k12, k13]
def interned : List (Array UInt16 × Addr) := []
def slotsUsed : Nat := 2
def theMethod : MethodId := ⟨1, 3⟩
def args0 : Array Value := #[.int 5, .int 5, .int 5, .int 5, .long 5, .int 5]
def aboutOver (below : List Frame) : State where
  vm := { classes := classes, interned := interned.toArray }
  heap := heap
  slotsUsed := slotsUsed
  threads := #[{ frames := .invoking theMethod args0 :: below }]
def below0 : List Frame := [.native { method := ⟨0, 0⟩, args := #[] }]
def about1 : State := aboutOver below0
def p0 : Program := .bare "" "" ""
def e0 : Env := launch0.env 0 0 0
theorem w_frames : about1.frames = Frame.invoking theMethod args0 :: below0 := rfl
set_option maxRecDepth 65536 in
theorem w_args : argsFit about1.vm theMethod args0 = true := by decide +kernel
set_option maxRecDepth 65536 in
theorem w_heap : heapFits about1 = true := by decide +kernel
set_option maxRecDepth 65536 in
theorem w_runnable : about1.curStatus? = some .runnable := by decide +kernel
set_option maxRecDepth 65536 in
theorem w_alone : about1.alone = true := by decide +kernel
set_option maxRecDepth 65536 in
theorem w_named : about1.methodNamed? x = some theMethod := by decide +kernel
set_option maxRecDepth 65536 in
theorem w_hears : about1.hears theMethod below0 = true := by decide +kernel
set_option maxRecDepth 65536 in
theorem w_ripe : about1.ripe theMethod args0 below0 = true := by decide +kernel
theorem w_running : about1.status = .running := rfl
set_option maxRecDepth 65536 in
theorem w_room : about1.hasRoom e0.platform room_1 = true :=
  launch0.hasRoom_least _ room_1 (by decide +kernel) (by decide +kernel) (by decide +kernel) (by decide +kernel) (by decide +kernel) (by decide +kernel)
theorem allAtoms_all (ts : List Jvm.Cond) (a : Array Jvm.Value) (st : Jvm.State) : (allAtoms ts).before a st = ts.all (fun c => c.before a st) := by
  induction ts with
  | nil => rfl
  | cons c t ih =>
    show (Jvm.Cond.and c (allAtoms t)).before a st = _
    rw [Jvm.Cond.before_and, ih, List.all_cons]
def words1 : List Jvm.Cond := Jvm.Cond.code x code maxLocals ret :: tables_1
/-- a 'code' word, met by the world's own term for the bytes: nothing is compared byte by byte -/
theorem code_word {y : MethodName} {bytes : ByteArray} {mx : Nat} {rt : Option FieldType} {a : Array Value} {s : State} {m : MethodId} {meth : Method} {c : Code} (h1 : s.methodNamed? y = some m) (h2 : s.vm.method? m = some meth) (h3 : meth.code = some c) (h4 : c.code = bytes)
    (h5 : (c.maxLocals == mx && c.exceptionTable.isEmpty && decide (c.maxStack ≤ mostOperands) && decide (meth.sig.returnType = rt) && !meth.locks && decide (parseMethodDescriptor y.desc = some meth.sig)) = true) : (Jvm.Cond.code y bytes mx rt).before a s = true := by
  simp only [Bool.and_eq_true, beq_iff_eq, Bool.not_eq_true', decide_eq_true_eq] at h5
  obtain ⟨⟨⟨⟨⟨g1, g2⟩, g3⟩, g4⟩, g5⟩, g6⟩ := h5
  simp [Cond.before, Cond.holds, Cond.value, h1, h2, h3, h4, g1, g2, g3, g4, g5, g6]
def isCode : Jvm.Cond → Bool
  | .code _ _ _ _ => true
  | _ => false
theorem all_split {L : List Jvm.Cond} {P : Jvm.Cond → Bool} (h1 : L.all (fun c => isCode c || P c) = true) (h2 : ∀ c ∈ L.filter isCode, P c = true) : L.all P = true := by
  refine List.all_eq_true.mpr fun c hc => ?_
  have h := List.all_eq_true.mp h1 c hc
  rcases Bool.eq_false_or_eq_true (isCode c) with hi | hi
  · exact h2 c (List.mem_filter.mpr ⟨hc, hi⟩)
  · simpa [hi] using h
set_option maxRecDepth 65536 in
theorem w_c0 : (Jvm.Cond.code x code maxLocals ret).before args0 about1 = true := code_word (m := ⟨1, 3⟩) (meth := k1m3) (c := k1c3) (by decide +kernel) rfl rfl rfl (by decide +kernel)
set_option maxRecDepth 65536 in
theorem w_c1 : (Jvm.Cond.code ({ cls := "com/example/hatoyama/hatoyama/IndexSet", name := "<init>", desc := "()V" } : Jvm.MethodName) prog_3_method_1_code (1 : Nat) (Option.none : Option Jvm.ClassFile.FieldType)).before args0 about1 = true := code_word (m := ⟨2, 0⟩) (meth := k2m0) (c := k2c0) (by decide +kernel) rfl rfl rfl (by decide +kernel)
set_option maxRecDepth 65536 in
theorem w_c2 : (Jvm.Cond.code ({ cls := "java/lang/Object", name := "<init>", desc := "()V" } : Jvm.MethodName) object_method_1_code (1 : Nat) (Option.none : Option Jvm.ClassFile.FieldType)).before args0 about1 = true := code_word (m := ⟨0, 0⟩) (meth := k0m0) (c := k0c0) (by decide +kernel) rfl rfl rfl (by decide +kernel)
set_option maxRecDepth 65536 in
theorem w_c3 : (Jvm.Cond.code ({ cls := "com/example/hatoyama/hatoyama/IndexSetIntersectsPinLaw", name := "fill", desc := "(Lcom/example/hatoyama/hatoyama/IndexSet;IIII)V" } : Jvm.MethodName) method_3_code (5 : Nat) (Option.none : Option Jvm.ClassFile.FieldType)).before args0 about1 = true := code_word (m := ⟨1, 2⟩) (meth := k1m2) (c := k1c2) (by decide +kernel) rfl rfl rfl (by decide +kernel)
set_option maxRecDepth 65536 in
theorem w_c4 : (Jvm.Cond.code ({ cls := "com/example/hatoyama/hatoyama/IndexSet", name := "add", desc := "(I)V" } : Jvm.MethodName) prog_3_method_4_code (4 : Nat) (Option.none : Option Jvm.ClassFile.FieldType)).before args0 about1 = true := code_word (m := ⟨2, 1⟩) (meth := k2m1) (c := k2c1) (by decide +kernel) rfl rfl rfl (by decide +kernel)
set_option maxRecDepth 65536 in
theorem w_c5 : (Jvm.Cond.code ({ cls := "java/util/Arrays", name := "binarySearch", desc := "([IIII)I" } : Jvm.MethodName) jdk_65_method_58_code (4 : Nat) (Option.some Jvm.ClassFile.FieldType.int)).before args0 about1 = true := code_word (m := ⟨3, 2⟩) (meth := k3m2) (c := k3c2) (by decide +kernel) rfl rfl rfl (by decide +kernel)
set_option maxRecDepth 65536 in
theorem w_c6 : (Jvm.Cond.code ({ cls := "java/util/Arrays", name := "rangeCheck", desc := "(III)V" } : Jvm.MethodName) jdk_65_method_30_code (3 : Nat) (Option.none : Option Jvm.ClassFile.FieldType)).before args0 about1 = true := code_word (m := ⟨3, 1⟩) (meth := k3m1) (c := k3c1) (by decide +kernel) rfl rfl rfl (by decide +kernel)
set_option maxRecDepth 65536 in
theorem w_c7 : (Jvm.Cond.code ({ cls := "java/util/Arrays", name := "binarySearch0", desc := "([IIII)I" } : Jvm.MethodName) jdk_65_method_59_code (8 : Nat) (Option.some Jvm.ClassFile.FieldType.int)).before args0 about1 = true := code_word (m := ⟨3, 3⟩) (meth := k3m3) (c := k3c3) (by decide +kernel) rfl rfl rfl (by decide +kernel)
set_option maxRecDepth 65536 in
theorem w_c8 : (Jvm.Cond.code ({ cls := "com/example/hatoyama/hatoyama/IndexSet", name := "room", desc := "(I)V" } : Jvm.MethodName) prog_3_method_10_code (3 : Nat) (Option.none : Option Jvm.ClassFile.FieldType)).before args0 about1 = true := code_word (m := ⟨2, 3⟩) (meth := k2m3) (c := k2c3) (by decide +kernel) rfl rfl rfl (by decide +kernel)
set_option maxRecDepth 65536 in
theorem w_c9 : (Jvm.Cond.code ({ cls := "java/lang/Math", name := "max", desc := "(II)I" } : Jvm.MethodName) jdk_29_method_65_code (2 : Nat) (Option.some Jvm.ClassFile.FieldType.int)).before args0 about1 = true := code_word (m := ⟨4, 1⟩) (meth := k4m1) (c := k4c1) (by decide +kernel) rfl rfl rfl (by decide +kernel)
set_option maxRecDepth 65536 in
theorem w_c10 : (Jvm.Cond.code ({ cls := "java/util/Arrays", name := "copyOf", desc := "([II)[I" } : Jvm.MethodName) jdk_65_method_123_code (3 : Nat) (Option.some (Jvm.ClassFile.FieldType.array Jvm.ClassFile.FieldType.int))).before args0 about1 = true := code_word (m := ⟨3, 4⟩) (meth := k3m4) (c := k3c4) (by decide +kernel) rfl rfl rfl (by decide +kernel)
set_option maxRecDepth 65536 in
theorem w_c11 : (Jvm.Cond.code ({ cls := "java/lang/Math", name := "min", desc := "(II)I" } : Jvm.MethodName) jdk_29_method_69_code (2 : Nat) (Option.some Jvm.ClassFile.FieldType.int)).before args0 about1 = true := code_word (m := ⟨4, 2⟩) (meth := k4m2) (c := k4c2) (by decide +kernel) rfl rfl rfl (by decide +kernel)
set_option maxRecDepth 65536 in
theorem w_c12 : (Jvm.Cond.code ({ cls := "java/util/Arrays", name := "copyOf", desc := "([JI)[J" } : Jvm.MethodName) jdk_65_method_124_code (3 : Nat) (Option.some (Jvm.ClassFile.FieldType.array Jvm.ClassFile.FieldType.long))).before args0 about1 = true := code_word (m := ⟨3, 5⟩) (meth := k3m5) (c := k3c5) (by decide +kernel) rfl rfl rfl (by decide +kernel)
set_option maxRecDepth 65536 in
theorem w_c13 : (Jvm.Cond.code ({ cls := "com/example/hatoyama/hatoyama/IndexSetIntersectsPinLaw", name := "pair", desc := "(ZIZI)Z" } : Jvm.MethodName) method_2_code (4 : Nat) (Option.some Jvm.ClassFile.FieldType.boolean)).before args0 about1 = true := code_word (m := ⟨1, 1⟩) (meth := k1m1) (c := k1c1) (by decide +kernel) rfl rfl rfl (by decide +kernel)
set_option maxRecDepth 65536 in
theorem w_c14 : (Jvm.Cond.code ({ cls := "com/example/hatoyama/hatoyama/IndexSet", name := "intersects", desc := "(Lcom/example/hatoyama/hatoyama/IndexSet;)Z" } : Jvm.MethodName) prog_3_method_7_code (5 : Nat) (Option.some Jvm.ClassFile.FieldType.boolean)).before args0 about1 = true := code_word (m := ⟨2, 2⟩) (meth := k2m2) (c := k2c2) (by decide +kernel) rfl rfl rfl (by decide +kernel)
def codes1 : List Jvm.Cond := [Jvm.Cond.code x code maxLocals ret, Jvm.Cond.code ({ cls := "com/example/hatoyama/hatoyama/IndexSet", name := "<init>", desc := "()V" } : Jvm.MethodName) prog_3_method_1_code (1 : Nat) (Option.none : Option Jvm.ClassFile.FieldType), Jvm.Cond.code ({ cls := "java/lang/Object", name := "<init>", desc := "()V" } : Jvm.MethodName) object_method_1_code (1 : Nat) (Option.none : Option Jvm.ClassFile.FieldType), Jvm.Cond.code ({ cls := "com/example/hatoyama/hatoyama/IndexSetIntersectsPinLaw", name := "fill", desc := "(Lcom/example/hatoyama/hatoyama/IndexSet;IIII)V" } : Jvm.MethodName) method_3_code (5 : Nat) (Option.none : Option Jvm.ClassFile.FieldType), Jvm.Cond.code ({ cls := "com/example/hatoyama/hatoyama/IndexSet", name := "add", desc := "(I)V" } : Jvm.MethodName) prog_3_method_4_code (4 : Nat) (Option.none : Option Jvm.ClassFile.FieldType), Jvm.Cond.code ({ cls := "java/util/Arrays", name := "binarySearch", desc := "([IIII)I" } : Jvm.MethodName) jdk_65_method_58_code (4 : Nat) (Option.some Jvm.ClassFile.FieldType.int), Jvm.Cond.code ({ cls := "java/util/Arrays", name := "rangeCheck", desc := "(III)V" } : Jvm.MethodName) jdk_65_method_30_code (3 : Nat) (Option.none : Option Jvm.ClassFile.FieldType), Jvm.Cond.code ({ cls := "java/util/Arrays", name := "binarySearch0", desc := "([IIII)I" } : Jvm.MethodName) jdk_65_method_59_code (8 : Nat) (Option.some Jvm.ClassFile.FieldType.int), Jvm.Cond.code ({ cls := "com/example/hatoyama/hatoyama/IndexSet", name := "room", desc := "(I)V" } : Jvm.MethodName) prog_3_method_10_code (3 : Nat) (Option.none : Option Jvm.ClassFile.FieldType), Jvm.Cond.code ({ cls := "java/lang/Math", name := "max", desc := "(II)I" } : Jvm.MethodName) jdk_29_method_65_code (2 : Nat) (Option.some Jvm.ClassFile.FieldType.int), Jvm.Cond.code ({ cls := "java/util/Arrays", name := "copyOf", desc := "([II)[I" } : Jvm.MethodName) jdk_65_method_123_code (3 : Nat) (Option.some (Jvm.ClassFile.FieldType.array Jvm.ClassFile.FieldType.int)), Jvm.Cond.code ({ cls := "java/lang/Math", name := "min", desc := "(II)I" } : Jvm.MethodName) jdk_29_method_69_code (2 : Nat) (Option.some Jvm.ClassFile.FieldType.int), Jvm.Cond.code ({ cls := "java/util/Arrays", name := "copyOf", desc := "([JI)[J" } : Jvm.MethodName) jdk_65_method_124_code (3 : Nat) (Option.some (Jvm.ClassFile.FieldType.array Jvm.ClassFile.FieldType.long)), Jvm.Cond.code ({ cls := "com/example/hatoyama/hatoyama/IndexSetIntersectsPinLaw", name := "pair", desc := "(ZIZI)Z" } : Jvm.MethodName) method_2_code (4 : Nat) (Option.some Jvm.ClassFile.FieldType.boolean), Jvm.Cond.code ({ cls := "com/example/hatoyama/hatoyama/IndexSet", name := "intersects", desc := "(Lcom/example/hatoyama/hatoyama/IndexSet;)Z" } : Jvm.MethodName) prog_3_method_7_code (5 : Nat) (Option.some Jvm.ClassFile.FieldType.boolean)]
set_option maxRecDepth 65536 in
theorem codes_eq : words1.filter isCode = codes1 := rfl
theorem w_codes : ∀ c ∈ words1.filter isCode, c.before args0 about1 = true := by
  rw [codes_eq]
  intro c hc
  simp only [codes1, List.mem_cons, List.not_mem_nil, or_false] at hc
  rcases hc with rfl | rfl | rfl | rfl | rfl | rfl | rfl | rfl | rfl | rfl | rfl | rfl | rfl | rfl | rfl
  · exact w_c0
  · exact w_c1
  · exact w_c2
  · exact w_c3
  · exact w_c4
  · exact w_c5
  · exact w_c6
  · exact w_c7
  · exact w_c8
  · exact w_c9
  · exact w_c10
  · exact w_c11
  · exact w_c12
  · exact w_c13
  · exact w_c14
set_option maxRecDepth 65536 in
theorem w_t1 : (words1.take 24).all (fun c => isCode c || c.before args0 about1) = true := by decide +kernel
set_option maxRecDepth 65536 in
theorem w_t2 : ((words1.drop 24).take 24).all (fun c => isCode c || c.before args0 about1) = true := by decide +kernel
set_option maxRecDepth 65536 in
theorem w_t3 : ((words1.drop 24).drop 24).all (fun c => isCode c || c.before args0 about1) = true := by decide +kernel
theorem w_tables : (allAtoms (Jvm.Cond.code x code maxLocals ret :: tables_1)).before args0 about1 = true := by
  rw [allAtoms_all]
  show words1.all (fun c => c.before args0 about1) = true
  refine all_split ?_ w_codes
  rw [← List.take_append_drop 24 words1, List.all_append, w_t1, ← List.take_append_drop 24 (words1.drop 24), List.all_append, w_t2, w_t3]
  rfl
set_option maxRecDepth 65536 in
theorem w_case : (Jvm.Cond.and given_1 narrow_1).before args0 about1 = true := by decide +kernel
theorem w_applies : (headSpec (Jvm.Cond.code x code maxLocals ret :: tables_1) room_1).applies x e0.platform about1 = true :=
  (Spec.applies_iff w_frames).mpr ⟨w_running, w_runnable, w_alone, w_named, w_hears, w_ripe, w_room, w_tables⟩
theorem atStart : AtStart classFile x code maxLocals ret World_1 tables_1 room_1 Calls_1 rest_1 Pre_1 launch0 p0 e0 about1 theMethod args0 below0 :=
  ⟨lists_1, trivial, launch0.admits_env _ _ _, launch0.least_env, fairChoices_fair.cas, fairChoices_fair.clock, w_frames, w_args, w_heap, w_applies, trivial, trivial, w_case⟩
end start1
theorem witness_1 : WitnessClaimed_1 := ⟨start1.p0, start1.e0, start1.about1, start1.theMethod, start1.args0, start1.below0, start1.atStart⟩
end Jvm.Pilot.@@N@@
