import JvmDerived
import JvmDerived.Pilot.@@N@@Statement
import JvmDerived.Pilot.@@N@@Code
set_option linter.unusedVariables false
set_option linter.unusedSimpArgs false

namespace Jvm.Pilot.@@N@@
open Jvm Jvm.ClassFile Sem Op Lib Jvm.Free Jvm.Stand Jvm.LawKit Jvm.RoadKit Bundle Jvm.Pilot.@@N@@.Jvm.D
theorem ow {Z : State} {a0 : Array Value} (hw : ∀ d ∈ tables_1, d.before a0 Z = true) (i : Nat) {d : Jvm.Cond} (h : tables_1[i]? = some d) : d.before a0 Z = true := hw _ (List.mem_of_getElem? h)
theorem own_irr {x : Int32} : ¬ x < x := fun h => Int.lt_irrefl _ (Int32.lt_iff_toInt_lt.mp h)
theorem own_neA {Z : State} {h : Heap} {a b : Addr} {k k' : ClassId} {ty ty' : FieldType} {z z' : Int32} {vs vs' : List Value} {d d' : Value} (A : Arv Z h a k ty z vs d) (B : Arv Z h b k' ty' z' vs' d') (hn : ty ≠ ty') : a ≠ b := fun q => by
  subst q
  obtain ⟨c1, ⟨e1, hA, -⟩, -⟩ := A
  obtain ⟨c2, ⟨e2, hB, -⟩, -⟩ := B
  cases e1.symm.trans e2
  obtain ⟨-, k1, g1, comp, hk⟩ := hA
  obtain ⟨-, k2, g2, comp', hk'⟩ := hB
  cases g1.symm.trans g2
  rw [hk] at hk'
  injection hk' with h1 h2
  exact hn h2
section Own
variable {p : Program} {l : Launch} {e : Env} {R : Room} {s : State} {m : MethodId} {args : Array Value} {below : List Frame} {meth : Method} {c : Code} {T : State} {locs : List Loc} {cells slots : Nat} {Z : State} {a0 : Array Value} {h : Heap} {vm0 : Vm} {EL : List (String × Nat)}
/-! own layer: contracts in CPS form. G is the goal at a state; go takes steps backwards, fin ends the walk. -/
def own_MetN (l : Launch) (Z : State) (y : MethodName) (bytes : ByteArray) (maxL : Nat) (ret : Option FieldType) (ws : List Jvm.Cond) (rm : Room) (as' : Array Value) (h0 : Heap) (Q : Option Value → Heap → List Loc → Prop) : Prop :=
  MetFree l y (head1 (Jvm.Cond.code y bytes maxL ret :: ws) rm) (fun a U => a = as' ∧ Z.Warmed39 U.vm ∧ U.heap = h0) (fun _ _ _ _ _ => True) (fun _ U o U' => ∃ v L, o = .returned v ∧ Q v U'.heap L ∧ FrameEnd U o U' L rm.cells rm.slots)
def own_MetH (l : Launch) (Z : State) (EL : List (String × Nat)) (y : MethodName) (bytes : ByteArray) (maxL : Nat) (ret : Option FieldType) (ws : List Jvm.Cond) (rm : Room) (as' : Array Value) (h0 : Heap) (Q : Option Value → Heap → List Loc → Prop) : Prop :=
  MetFree l y (head1 (Jvm.Cond.code y bytes maxL ret :: ws) rm) (fun a U => a = as' ∧ Z.Warmed39 U.vm ∧ U.heap = h0 ∧ CHv Z EL U.vm h0) (fun _ _ _ _ _ => True) (fun _ U o U' => ∃ v L, o = .returned v ∧ Q v U'.heap L ∧ CHr Z EL U.vm U.heap U'.vm U'.heap ∧ ReturnedEndW U o U' L rm.cells rm.slots)
def own_Go (p : Program) (e : Env) (below : List Frame) (G : State → Prop) : Prop := ∀ A B, (∀ t, Steps p.tables e below B t → Steps p.tables e below A t) → G B → G A
def own_Ret (p : Program) (e : Env) (below : List Frame) (m : MethodId) (T : State) (v : Option Value) (g : JFrame) : Prop :=
  ∀ fs, (∀ (f : JFrame) (acts : List Action), f.method = m → f.locked = none → f.entered = [] → (doReturn e (T.setTop f) acts v).1 = T.setFrames fs) → Steps p.tables e below (T.setTop g) (T.setFrames fs)
theorem own_metN {y : MethodName} {bytes : ByteArray} {maxL : Nat} {ret : Option FieldType} {ws : List Jvm.Cond} {rm : Room} {as' : Array Value} {h0 : Heap} {Q : Option Value → Heap → List Loc → Prop} (pn : plainFor y = true)
    (K : ∀ (p : Program) (e : Env) (s : State) (m : MethodId) (below : List Frame) (meth : Method) (c : Code) (s₁ : State) (G : State → Prop), p.tables.exec = Jvm.exec → c.code = bytes → c.maxLocals = maxL → Z.Warmed39 s.vm → s.vm.findClass y.cls = some m.cls → meth.name = y.name → meth.sig.returnType = ret →
      Stand p l e rm s m as' below meth c s₁ [] 0 0 → s₁.heap = h0 → own_Go p e below G →
      (∀ (T : State) (L : List Loc) (cells slots : Nat) (v : Option Value), Stand p l e rm s m as' below meth c T L cells slots → (ret = none → v = none) → cells ≤ rm.cells → slots ≤ rm.slots → Q v T.heap L → ∀ g : JFrame, own_Ret p e below m T v g → G (T.setTop g)) →
      G (s₁.setTop (entryFrame m as' maxL))) :
    own_MetN l Z y bytes maxL ret ws rm as' h0 Q := by
  refine MetFree.of_bodySF pn hisR ?_
  intro p e s m args below meth c s₁ Bd hml0 hP hK
  obtain ⟨rfl, hZ, hh⟩ := hP
  refine K p e s m below meth c s₁ (fun A => ∃ s₂ o, Steps p.tables e below A s₂ ∧ s₂.status = .running ∧ Ended s₂ below o ∧ ∃ v L, o = .returned v ∧ Q v s₂.heap L ∧ FrameEnd s o s₂ L rm.cells rm.slots) Bd.exec Bd.bytes hml0 hZ (findClass_of_methodNamed Bd.named) (name_of_methodNamed Bd.named Bd.method).1 Bd.returns (Stand.of_body Bd) (by rw [← hh, Bd.state]; rfl) ?_ ?_
  · rintro A B st ⟨s₂, o, h1, h2⟩; exact ⟨s₂, o, st _ h1, h2⟩
  · intro T L cells slots v X hv hc hs hq g hg
    obtain ⟨fs, hr, hrun, hended, hW, hsame⟩ := X.leave (v := v) (fun q => hv (Bd.returns.symm.trans q))
    exact ⟨_, _, hg fs hr, hrun, hended, _, _, rfl, hq, ⟨_, rfl⟩, hW, hsame.mono hc hs⟩
theorem own_metH {y : MethodName} {bytes : ByteArray} {maxL : Nat} {ret : Option FieldType} {ws : List Jvm.Cond} {rm : Room} {as' : Array Value} {h0 : Heap} {Q : Option Value → Heap → List Loc → Prop} (pn : plainFor y = true) (hEL : EW Z a0 EL)
    (K : ∀ (p : Program) (e : Env) (s : State) (m : MethodId) (below : List Frame) (meth : Method) (c : Code) (s₁ : State) (G : State → Prop), p.tables.exec = Jvm.exec → c.code = bytes → c.maxLocals = maxL → Z.Warmed39 s.vm → s.vm.findClass y.cls = some m.cls → meth.name = y.name → meth.sig.returnType = ret →
      Stand p l e rm (s.setVm s.vm) m as' below meth c s₁ [] 0 0 → s₁.heap = h0 → s.Since s.vm h0.size → CHr Z EL s.vm h0 s.vm h0 → own_Go p e below G →
      (∀ (T : State) (L : List Loc) (cells slots : Nat) (v : Option Value) (vm0 : Vm) (k0 : Nat), Stand p l e rm (s.setVm vm0) m as' below meth c T L cells slots → Z.Warmed39 vm0 → s.Since vm0 k0 → k0 ≤ T.heap.size → CHr Z EL s.vm h0 vm0 T.heap → (ret = none → v = none) → cells ≤ rm.cells → slots ≤ rm.slots → Q v T.heap L → ∀ g : JFrame, own_Ret p e below m T v g → G (T.setTop g)) →
      G (s₁.setTop (entryFrame m as' maxL))) :
    own_MetH l Z EL y bytes maxL ret ws rm as' h0 Q := by
  refine MetFree.of_bodySF pn hisR ?_
  intro p e s m args below meth c s₁ Bd hml0 hP hK
  obtain ⟨rfl, hZ, hh, hC⟩ := hP
  refine K p e s m below meth c s₁ (fun A => ∃ s₂ o, Steps p.tables e below A s₂ ∧ s₂.status = .running ∧ Ended s₂ below o ∧ ∃ v L, o = .returned v ∧ Q v s₂.heap L ∧ CHr Z EL s.vm s.heap s₂.vm s₂.heap ∧ ReturnedEndW s o s₂ L rm.cells rm.slots) Bd.exec Bd.bytes hml0 hZ (findClass_of_methodNamed Bd.named) (name_of_methodNamed Bd.named Bd.method).1 Bd.returns (Stand.of_body Bd) (by rw [← hh, Bd.state]; rfl) ((State.WarmedH.refl s).since _) (CHr.refl hC) ?_ ?_
  · rintro A B st ⟨s₂, o, h1, h2⟩; exact ⟨s₂, o, st _ h1, h2⟩
  · intro T L cells slots v vm0 k0 X hZ0 hS hk hR hv hc hs hq g hg
    obtain ⟨fs, hr, hrun, hended, e1, e2, e3, e4⟩ := X.leaveW (v := v) hS hk (fun q => hv (Bd.returns.symm.trans q))
    refine ⟨_, _, hg fs hr, hrun, hended, _, _, rfl, hq, ?_, e1, e2, e3, e4.mono hc hs⟩
    rw [hh]
    show CHr Z EL s.vm h0 T.vm T.heap
    exact hR.trans (CHv.at X hZ0 hEL hR.1)
theorem own_nfS {y y' z' : MethodName} {C' : String} {as' : Array Value} (hc : z'.cls = y.cls) (ws : (Jvm.Cond.selects C' y' z').before as' s = true) : NotFace s y := fun r0 h0 => by
  obtain ⟨c2, r2, m2, -, -, q3, -, kP, hkP, hkPi⟩ := Cond.selects_spec ws
  have f1 := findClass_of_methodNamed h0
  have f2 := findClass_of_methodNamed q3
  rw [hc] at f2
  have e : m2.cls = r0.cls := Option.some.inj (f2.symm.trans f1)
  rw [e] at hkP
  exact ⟨kP, hkP, hkPi⟩
/-! calls: the callee's law in backOf's shape pays -/
theorem own_bkN {y : MethodName} {bytes : ByteArray} {maxL : Nat} {ret : Option FieldType} {rm : Room} {len W : Nat} {as' : Array Value} {Q : Option Value → Heap → List Loc → Prop} (hM : own_MetN l Z y bytes maxL ret [] rm as' h Q)
    (hZ : Z.Warmed39 s.vm) (wc : (Jvm.Cond.code y bytes maxL ret).before a0 Z = true) (wz : (Jvm.Cond.initialized y.cls).before a0 Z = true) (hf : rm.frames + 1 ≤ R.frames) (hl : W + (maxL + 11) + rm.locals ≤ R.locals) :
    Back l R p e below s args y len W (fun A a => a = as' ∧ A.U.heap = h ∧ A.cells + rm.cells ≤ R.cells ∧ A.slots + rm.slots ≤ R.slots) (fun A _ v B => ∃ L, Q v B.U.heap L ∧ B.locs = A.locs ++ L ∧ B.cells = A.cells + rm.cells ∧ B.slots = A.slots + rm.slots) :=
  backOf (Q := Q) hM hZ wc wz hf hl
theorem own_bkH {y : MethodName} {bytes : ByteArray} {maxL : Nat} {ret : Option FieldType} {rm : Room} {len W : Nat} {as' : Array Value} {Q : Option Value → Heap → List Loc → Prop} (hM : own_MetH l Z EL y bytes maxL ret [] rm as' h Q)
    (hZ : Z.Warmed39 vm0) (wc : (Jvm.Cond.code y bytes maxL ret).before a0 Z = true) (wz : (Jvm.Cond.initialized y.cls).before a0 Z = true) (hf : rm.frames + 1 ≤ R.frames) (hl : W + (maxL + 11) + rm.locals ≤ R.locals) (hEL : EW Z a0 EL) (H : CHv Z EL vm0 h) :
    BackS l R p e below (s.setVm vm0) args y len W (fun A a => a = as' ∧ A.U.heap = h ∧ A.cells + rm.cells ≤ R.cells ∧ A.slots + rm.slots ≤ R.slots) (fun A _ v B => ∃ L, Q v B.U.heap L ∧ B.locs = A.locs ++ L ∧ B.cells = A.cells + rm.cells ∧ B.slots = A.slots + rm.slots ∧ CHr Z EL vm0 h B.U.vm B.U.heap) :=
  backOfSH (Q := Q) hM hZ wc wz hf hl hEL H
theorem own_st (X : Stand p l e R s m args below meth c T locs cells slots) (hx : p.tables.exec = Jvm.exec) (hZ : Z.Warmed39 s.vm) {own : String} {index : Nat} {y : MethodName} {bytes : ByteArray} {maxL : Nat} {ret : Option FieldType}
    (hown : s.vm.findClass own = some m.cls) (w1 : (Jvm.Cond.methodLink own index y).before a0 Z = true) (w2 : (Jvm.Cond.static y).before a0 Z = true) (w3 : (Jvm.Cond.initialized y.cls).before a0 Z = true) (w4 : (Jvm.Cond.code y bytes maxL ret).before a0 Z = true)
    (hy : y.cls ≠ "java/lang/invoke/MethodHandle" ∧ y.cls ≠ "java/lang/invoke/VarHandle") {W kc ks : Nat} {as' : Array Value} {Q : Option Value → Heap → List Loc → Prop}
    (hK : Back l R p e below s args y 3 W (fun A a => a = as' ∧ A.U.heap = h ∧ A.cells + kc ≤ R.cells ∧ A.slots + ks ≤ R.slots) (fun A _ v B => ∃ L, Q v B.U.heap L ∧ B.locs = A.locs ++ L ∧ B.cells = A.cells + kc ∧ B.slots = A.slots + ks))
    (eT : T.heap = h) {g : JFrame} (hg : g.method = m) (hsize : g.locals.size = c.maxLocals) {argsL rest : List Value} (ha : argsL.toArray = as') (hlen : ∀ sig, parseMethodDescriptor y.desc = some sig → argsL.length = sig.parameters.length)
    (hstack : g.stack = argsL.reverse ++ rest) (hW : 2 * g.monitorRoom + (rest.map fun v => v.category).sum ≤ W) (hdg : decode c.code g.pc = .ok (.invokestatic index, 3)) (hc : cells + kc ≤ R.cells) (hs : slots + ks ≤ R.slots) :
    ∃ (v : Option Value) (T' : State) (L : List Loc), Stand p l e R s m args below meth c T' (locs ++ L) (cells + kc) (slots + ks) ∧ Q v T'.heap L ∧ ∀ t, Steps p.tables e below (T'.setTop { g with pc := g.pc + 3, stack := v.toList ++ rest }) t → Steps p.tables e below (T.setTop g) t := by
  obtain ⟨v, vm₁, ⟨T', L', k', n'⟩, -, X', ⟨L, hq, hl, hk, hn⟩, st⟩ := Jvm.LawKit.callS X hx hown (mvT hZ w1) (mvT hZ w2) (mvT hZ w3) (mvT hZ w4) hy hK hg hsize hlen hstack hW hdg (fun _ _ => ⟨ha, eT, hc, hs⟩)
  dsimp only [Pt.U, Pt.locs, Pt.cells, Pt.slots] at X' hq hl hk hn st
  subst hl hk hn
  exact ⟨v, T', L, X', hq, st⟩
theorem own_sp (X : Stand p l e R s m args below meth c T locs cells slots) (hx : p.tables.exec = Jvm.exec) (hZ : Z.Warmed39 s.vm) {own : String} {index : Nat} {y : MethodName} {bytes : ByteArray} {maxL : Nat} (hy1 : y.name = "<init>")
    (hown : s.vm.findClass own = some m.cls) (w1 : (Jvm.Cond.methodLink own index y).before a0 Z = true) (w2 : (Jvm.Cond.instanceMethod y).before a0 Z = true) (w4 : (Jvm.Cond.code y bytes maxL none).before a0 Z = true)
    (hy : y.cls ≠ "java/lang/invoke/MethodHandle" ∧ y.cls ≠ "java/lang/invoke/VarHandle") {W kc ks : Nat} {as' : Array Value} {Q : Option Value → Heap → List Loc → Prop}
    (hK : Back l R p e below s args y 3 W (fun A a => a = as' ∧ A.U.heap = h ∧ A.cells + kc ≤ R.cells ∧ A.slots + ks ≤ R.slots) (fun A _ v B => ∃ L, Q v B.U.heap L ∧ B.locs = A.locs ++ L ∧ B.cells = A.cells + kc ∧ B.slots = A.slots + ks))
    (eT : T.heap = h) {g : JFrame} (hg : g.method = m) (hsize : g.locals.size = c.maxLocals) {a : Addr} {argsL rest : List Value} (ha : (.ref a :: argsL).toArray = as') (hlen : ∀ sig, parseMethodDescriptor y.desc = some sig → argsL.length = sig.parameters.length)
    (hstack : g.stack = argsL.reverse ++ .ref a :: rest) (hW : 2 * g.monitorRoom + (rest.map fun v => v.category).sum ≤ W) (hdg : decode c.code g.pc = .ok (.invokespecial index, 3)) (hc : cells + kc ≤ R.cells) (hs : slots + ks ≤ R.slots) :
    ∃ (v : Option Value) (T' : State) (L : List Loc), Stand p l e R s m args below meth c T' (locs ++ L) (cells + kc) (slots + ks) ∧ Q v T'.heap L ∧ ∀ t, Steps p.tables e below (T'.setTop { g with pc := g.pc + 3, stack := v.toList ++ rest }) t → Steps p.tables e below (T.setTop g) t := by
  obtain ⟨v, vm₁, ⟨T', L', k', n'⟩, -, X', ⟨L, hq, hl, hk, hn⟩, st⟩ := X.specialBack hx hy1 hown (mvT hZ w1) (mvT hZ w2) (mvT hZ w4) hy hK hg hsize (Steps.refl _) hlen hstack hW hdg (fun _ _ => ⟨ha, eT, hc, hs⟩)
  dsimp only [Pt.U, Pt.locs, Pt.cells, Pt.slots] at X' hq hl hk hn st
  subst hl hk hn
  exact ⟨v, T', L, X', hq, fun _ k => st.trans k⟩
theorem own_vi (X : Stand p l e R s m args below meth c T locs cells slots) (hx : p.tables.exec = Jvm.exec) (hZ : Z.Warmed39 s.vm) {own C : String} {index : Nat} {y z : MethodName}
    (hown : s.vm.findClass own = some m.cls) (w1 : (Jvm.Cond.methodLink own index y).before a0 Z = true) (w2 : (Jvm.Cond.declares y).before a0 Z = true) (w3 : (Jvm.Cond.selects C y z).before a0 Z = true) (w4 : (Jvm.Cond.instanceMethod z).before a0 Z = true) (hn : z = y ∨ (∃ S, (Jvm.Cond.superclass y.cls S).before a0 Z = true) ∨ (Jvm.Cond.noSuperclass y.cls).before a0 Z = true ∨ ∃ C' y' z', z'.cls = y.cls ∧ (Jvm.Cond.selects C' y' z').before a0 Z = true)
    (hy : y.cls ≠ "java/lang/invoke/MethodHandle" ∧ y.cls ≠ "java/lang/invoke/VarHandle") {W kc ks : Nat} {as' : Array Value} {Q : Option Value → Heap → List Loc → Prop}
    (hK : Back l R p e below s args z 3 W (fun A a => a = as' ∧ A.U.heap = h ∧ A.cells + kc ≤ R.cells ∧ A.slots + ks ≤ R.slots) (fun A _ v B => ∃ L, Q v B.U.heap L ∧ B.locs = A.locs ++ L ∧ B.cells = A.cells + kc ∧ B.slots = A.slots + ks))
    (eT : T.heap = h) {b : Addr} (E : Exa Z h b C) {g : JFrame} (hg : g.method = m) (hsize : g.locals.size = c.maxLocals) {argsL rest : List Value} (ha : (.ref b :: argsL).toArray = as') (hlen : ∀ sig, parseMethodDescriptor y.desc = some sig → argsL.length = sig.parameters.length)
    (hstack : g.stack = argsL.reverse ++ .ref b :: rest) (hW : 2 * g.monitorRoom + (rest.map fun v => v.category).sum ≤ W) (hdg : decode c.code g.pc = .ok (.invokevirtual index, 3)) (hc : cells + kc ≤ R.cells) (hs : slots + ks ≤ R.slots) :
    ∃ (v : Option Value) (T' : State) (L : List Loc), Stand p l e R s m args below meth c T' (locs ++ L) (cells + kc) (slots + ks) ∧ Q v T'.heap L ∧ ∀ t, Steps p.tables e below (T'.setTop { g with pc := g.pc + 3, stack := v.toList ++ rest }) t → Steps p.tables e below (T.setTop g) t := by
  have hnf : NotFace s y := by
    rcases hn with rfl | ⟨S, w⟩ | w | ⟨C', y', z', hc, w⟩
    · exact notFace_of_selects (args := #[]) (mvT hZ w3)
    · exact nf_super (args := #[]) (mvT hZ w)
    · exact nf_top (args := #[]) (mvT hZ w)
    · exact own_nfS hc (mvT (args := #[]) hZ w)
  obtain ⟨cq, kq, qa, qb, qc⟩ := isOf hZ eT E
  obtain ⟨v, vm₁, ⟨T', L', k', n'⟩, -, X', ⟨L, hq, hl, hk, hn⟩, st⟩ := X.virtualBack hx (y := y) (z := z) hown (mvT hZ w1) (mvT hZ w2) hnf (mvT hZ w3) (mvT hZ w4) hy hK qa qc hg hsize (Steps.refl _) hlen hstack hW hdg (fun _ _ => ⟨ha, eT, hc, hs⟩)
  dsimp only [Pt.U, Pt.locs, Pt.cells, Pt.slots] at X' hq hl hk hn st
  subst hl hk hn
  exact ⟨v, T', L, X', hq, fun _ k => st.trans k⟩
/-! .. of a callee that may load String constants: the walk goes on over the tables at hand -/
theorem own_stW (X : Stand p l e R (s.setVm vm0) m args below meth c T locs cells slots) (hx : p.tables.exec = Jvm.exec) (hZ : Z.Warmed39 vm0) {own : String} {index : Nat} {y : MethodName} {bytes : ByteArray} {maxL : Nat} {ret : Option FieldType}
    (hown : vm0.findClass own = some m.cls) (w1 : (Jvm.Cond.methodLink own index y).before a0 Z = true) (w2 : (Jvm.Cond.static y).before a0 Z = true) (w3 : (Jvm.Cond.initialized y.cls).before a0 Z = true) (w4 : (Jvm.Cond.code y bytes maxL ret).before a0 Z = true)
    (hy : y.cls ≠ "java/lang/invoke/MethodHandle" ∧ y.cls ≠ "java/lang/invoke/VarHandle") {W kc ks : Nat} {as' : Array Value} {Q : Option Value → Heap → List Loc → Prop}
    (hK : BackS l R p e below (s.setVm vm0) args y 3 W (fun A a => a = as' ∧ A.U.heap = h ∧ A.cells + kc ≤ R.cells ∧ A.slots + ks ≤ R.slots) (fun A _ v B => ∃ L, Q v B.U.heap L ∧ B.locs = A.locs ++ L ∧ B.cells = A.cells + kc ∧ B.slots = A.slots + ks ∧ CHr Z EL vm0 h B.U.vm B.U.heap))
    (eT : T.heap = h) {k0 : Nat} (hS : s.Since vm0 k0) (hk0 : k0 ≤ h.size) {g : JFrame} (hg : g.method = m) (hsize : g.locals.size = c.maxLocals) {argsL rest : List Value} (ha : argsL.toArray = as') (hlen : ∀ sig, parseMethodDescriptor y.desc = some sig → argsL.length = sig.parameters.length)
    (hstack : g.stack = argsL.reverse ++ rest) (hW : 2 * g.monitorRoom + (rest.map fun v => v.category).sum ≤ W) (hdg : decode c.code g.pc = .ok (.invokestatic index, 3)) (hc : cells + kc ≤ R.cells) (hs : slots + ks ≤ R.slots) :
    ∃ (v : Option Value) (T' : State) (L : List Loc), Stand p l e R (s.setVm T'.vm) m args below meth c T' (locs ++ L) (cells + kc) (slots + ks) ∧ Q v T'.heap L ∧ Z.Warmed39 T'.vm ∧ T'.vm.findClass own = some m.cls ∧ s.Since T'.vm T'.heap.size ∧ CHr Z EL vm0 h T'.vm T'.heap ∧ ∀ t, Steps p.tables e below (T'.setTop { g with pc := g.pc + 3, stack := v.toList ++ rest }) t → Steps p.tables e below (T.setTop g) t := by
  have hZ' : Z.Warmed39 (s.setVm vm0).vm := hZ
  obtain ⟨v, vm₁, ⟨T', L', k', n'⟩, -, X', hS', hg', ⟨L, hq, hl, hk, hn, hC⟩, st⟩ := callSS X hx (own := own) (index := index) hown (mvT hZ' w1) (mvT hZ' w2) (mvT hZ' w3) (mvT hZ' w4) hy hK hg hsize hlen hstack hW hdg (fun _ _ => ⟨ha, eT, hc, hs⟩)
  dsimp only [Pt.U, Pt.locs, Pt.cells, Pt.slots] at X' hS' hg' hq hl hk hn hC st
  subst hl hk hn eT
  obtain ⟨Y, hS2, hZ2, hown2⟩ := rebS hS hk0 X' hS' hg' hZ' hown
  exact ⟨v, T', L, Y, hq, hZ2, hown2, hS2, hC, fun _ k => st.trans k⟩
theorem own_spW (X : Stand p l e R (s.setVm vm0) m args below meth c T locs cells slots) (hx : p.tables.exec = Jvm.exec) (hZ : Z.Warmed39 vm0) {own : String} {index : Nat} {y : MethodName} {bytes : ByteArray} {maxL : Nat} (hy1 : y.name = "<init>")
    (hown : vm0.findClass own = some m.cls) (w1 : (Jvm.Cond.methodLink own index y).before a0 Z = true) (w2 : (Jvm.Cond.instanceMethod y).before a0 Z = true) (w4 : (Jvm.Cond.code y bytes maxL none).before a0 Z = true)
    (hy : y.cls ≠ "java/lang/invoke/MethodHandle" ∧ y.cls ≠ "java/lang/invoke/VarHandle") {W kc ks : Nat} {as' : Array Value} {Q : Option Value → Heap → List Loc → Prop}
    (hK : BackS l R p e below (s.setVm vm0) args y 3 W (fun A a => a = as' ∧ A.U.heap = h ∧ A.cells + kc ≤ R.cells ∧ A.slots + ks ≤ R.slots) (fun A _ v B => ∃ L, Q v B.U.heap L ∧ B.locs = A.locs ++ L ∧ B.cells = A.cells + kc ∧ B.slots = A.slots + ks ∧ CHr Z EL vm0 h B.U.vm B.U.heap))
    (eT : T.heap = h) {k0 : Nat} (hS : s.Since vm0 k0) (hk0 : k0 ≤ h.size) {g : JFrame} (hg : g.method = m) (hsize : g.locals.size = c.maxLocals) {a : Addr} {argsL rest : List Value} (ha : (.ref a :: argsL).toArray = as') (hlen : ∀ sig, parseMethodDescriptor y.desc = some sig → argsL.length = sig.parameters.length)
    (hstack : g.stack = argsL.reverse ++ .ref a :: rest) (hW : 2 * g.monitorRoom + (rest.map fun v => v.category).sum ≤ W) (hdg : decode c.code g.pc = .ok (.invokespecial index, 3)) (hc : cells + kc ≤ R.cells) (hs : slots + ks ≤ R.slots) :
    ∃ (v : Option Value) (T' : State) (L : List Loc), Stand p l e R (s.setVm T'.vm) m args below meth c T' (locs ++ L) (cells + kc) (slots + ks) ∧ Q v T'.heap L ∧ Z.Warmed39 T'.vm ∧ T'.vm.findClass own = some m.cls ∧ s.Since T'.vm T'.heap.size ∧ CHr Z EL vm0 h T'.vm T'.heap ∧ ∀ t, Steps p.tables e below (T'.setTop { g with pc := g.pc + 3, stack := v.toList ++ rest }) t → Steps p.tables e below (T.setTop g) t := by
  have hZ' : Z.Warmed39 (s.setVm vm0).vm := hZ
  obtain ⟨v, vm₁, ⟨T', L', k', n'⟩, -, X', hS', hg', ⟨L, hq, hl, hk, hn, hC⟩, st⟩ := X.specialBackS hx hy1 (own := own) (index := index) hown (mvT hZ' w1) (mvT hZ' w2) (mvT hZ' w4) hy hK hg hsize (Steps.refl _) hlen hstack hW hdg (fun _ _ => ⟨ha, eT, hc, hs⟩)
  dsimp only [Pt.U, Pt.locs, Pt.cells, Pt.slots] at X' hS' hg' hq hl hk hn hC st
  subst hl hk hn eT
  obtain ⟨Y, hS2, hZ2, hown2⟩ := rebS hS hk0 X' hS' hg' hZ' hown
  exact ⟨v, T', L, Y, hq, hZ2, hown2, hS2, hC, fun _ k => st.trans k⟩
theorem own_viW (X : Stand p l e R (s.setVm vm0) m args below meth c T locs cells slots) (hx : p.tables.exec = Jvm.exec) (hZ : Z.Warmed39 vm0) {own C : String} {index : Nat} {y z : MethodName}
    (hown : vm0.findClass own = some m.cls) (w1 : (Jvm.Cond.methodLink own index y).before a0 Z = true) (w2 : (Jvm.Cond.declares y).before a0 Z = true) (w3 : (Jvm.Cond.selects C y z).before a0 Z = true) (w4 : (Jvm.Cond.instanceMethod z).before a0 Z = true) (hn : z = y ∨ (∃ S, (Jvm.Cond.superclass y.cls S).before a0 Z = true) ∨ (Jvm.Cond.noSuperclass y.cls).before a0 Z = true ∨ ∃ C' y' z', z'.cls = y.cls ∧ (Jvm.Cond.selects C' y' z').before a0 Z = true)
    (hy : y.cls ≠ "java/lang/invoke/MethodHandle" ∧ y.cls ≠ "java/lang/invoke/VarHandle") {W kc ks : Nat} {as' : Array Value} {Q : Option Value → Heap → List Loc → Prop}
    (hK : BackS l R p e below (s.setVm vm0) args z 3 W (fun A a => a = as' ∧ A.U.heap = h ∧ A.cells + kc ≤ R.cells ∧ A.slots + ks ≤ R.slots) (fun A _ v B => ∃ L, Q v B.U.heap L ∧ B.locs = A.locs ++ L ∧ B.cells = A.cells + kc ∧ B.slots = A.slots + ks ∧ CHr Z EL vm0 h B.U.vm B.U.heap))
    (eT : T.heap = h) {k0 : Nat} (hS : s.Since vm0 k0) (hk0 : k0 ≤ h.size) {b : Addr} (E : Exa Z h b C) {g : JFrame} (hg : g.method = m) (hsize : g.locals.size = c.maxLocals) {argsL rest : List Value} (ha : (.ref b :: argsL).toArray = as') (hlen : ∀ sig, parseMethodDescriptor y.desc = some sig → argsL.length = sig.parameters.length)
    (hstack : g.stack = argsL.reverse ++ .ref b :: rest) (hW : 2 * g.monitorRoom + (rest.map fun v => v.category).sum ≤ W) (hdg : decode c.code g.pc = .ok (.invokevirtual index, 3)) (hc : cells + kc ≤ R.cells) (hs : slots + ks ≤ R.slots) :
    ∃ (v : Option Value) (T' : State) (L : List Loc), Stand p l e R (s.setVm T'.vm) m args below meth c T' (locs ++ L) (cells + kc) (slots + ks) ∧ Q v T'.heap L ∧ Z.Warmed39 T'.vm ∧ T'.vm.findClass own = some m.cls ∧ s.Since T'.vm T'.heap.size ∧ CHr Z EL vm0 h T'.vm T'.heap ∧ ∀ t, Steps p.tables e below (T'.setTop { g with pc := g.pc + 3, stack := v.toList ++ rest }) t → Steps p.tables e below (T.setTop g) t := by
  have hZ' : Z.Warmed39 (s.setVm vm0).vm := hZ
  have hnf : NotFace (s.setVm vm0) y := by
    rcases hn with rfl | ⟨S, w⟩ | w | ⟨C', y', z', hc, w⟩
    · exact notFace_of_selects (args := #[]) (mvT hZ' w3)
    · exact nf_super (args := #[]) (mvT hZ' w)
    · exact nf_top (args := #[]) (mvT hZ' w)
    · exact own_nfS hc (mvT (args := #[]) hZ' w)
  obtain ⟨cq, kq, qa, qb, qc⟩ := isOf hZ' eT E
  obtain ⟨v, vm₁, ⟨T', L', k', n'⟩, -, X', hS', hg', ⟨L, hq, hl, hk, hn, hC⟩, st⟩ := X.virtualBackS hx (y := y) (z := z) (own := own) (index := index) hown (mvT hZ' w1) (mvT hZ' w2) hnf (mvT hZ' w3) (mvT hZ' w4) hy hK qa qc hg hsize (Steps.refl _) hlen hstack hW hdg (fun _ _ => ⟨ha, eT, hc, hs⟩)
  dsimp only [Pt.U, Pt.locs, Pt.cells, Pt.slots] at X' hS' hg' hq hl hk hn hC st
  subst hl hk hn eT
  obtain ⟨Y, hS2, hZ2, hown2⟩ := rebS hS hk0 X' hS' hg' hZ' hown
  exact ⟨v, T', L, Y, hq, hZ2, hown2, hS2, hC, fun _ k => st.trans k⟩
theorem own_catR {a : Addr} : (Value.ref a).category = 1 := rfl
theorem own_catI {a : Int32} : (Value.int a).category = 1 := rfl
theorem own_catN : Value.null.category = 1 := rfl
theorem own_catJ {a : Int64} : (Value.long a).category = 2 := rfl
theorem own_cat {v : Value} (hv : v.isRef = true) : v.category = 1 := by rcases ref_cases hv with rfl | ⟨a, rfl⟩ <;> rfl
theorem own_narR {v : Value} {C : String} : narrow (.object C) v = v := by cases v <;> rfl
theorem own_fitR {v : Value} {C : String} (hv : v.isRef = true) : fits (.object C) v = true := by rcases ref_cases hv with rfl | ⟨a, rfl⟩ <;> rfl
theorem own_retA (X : Stand p l e R s m args below meth c T locs cells slots) (hx : p.tables.exec = Jvm.exec) {pc : Nat} {Ls : Array Slot} {w : Value} {t : FieldType} {rest : List Value} (hret : meth.sig.returnType = some t) (ht : t.isReference = true) (hw : w.isRef = true) (hn : narrow t w = w) (hd : decode c.code pc = .ok (.areturn, 1)) :
    own_Ret p e below m T (some w) (mkF m pc Ls (w :: rest)) := fun _ hl => retOut X hx hret hn (Or.inr (Or.inr (Or.inr (Or.inr ⟨rfl, ht, hw⟩)))) hd hl
theorem own_retI (X : Stand p l e R s m args below meth c T locs cells slots) (hx : p.tables.exec = Jvm.exec) {pc : Nat} {Ls : Array Slot} {z : Int32} {rest : List Value} (hret : meth.sig.returnType = some .int) (hd : decode c.code pc = .ok (.ireturn, 1)) :
    own_Ret p e below m T (some (.int z)) (mkF m pc Ls (.int z :: rest)) := fun _ hl => retOut X hx hret rfl (Or.inl ⟨rfl, Or.inl rfl, z, rfl⟩) hd hl
theorem own_retN (X : Stand p l e R s m args below meth c T locs cells slots) (hx : p.tables.exec = Jvm.exec) {pc : Nat} {Ls : Array Slot} {z : Int32} {t : FieldType} {rest : List Value} (hret : meth.sig.returnType = some t) (ht : t = .boolean ∨ t = .byte ∨ t = .char ∨ t = .short) (hd : decode c.code pc = .ok (.ireturn, 1)) :
    own_Ret p e below m T (some (.int (nar t z))) (mkF m pc Ls (.int z :: rest)) := fun _ hl => retN X hx hret ht hd hl
theorem own_retV (X : Stand p l e R s m args below meth c T locs cells slots) (hx : p.tables.exec = Jvm.exec) {pc : Nat} {Ls : Array Slot} (hret : meth.sig.returnType = none) (hd : decode c.code pc = .ok (.return_, 1)) :
    own_Ret p e below m T none (mkF m pc Ls []) := fun _ hl => X.returnOut hx hret hd hl
theorem own_in (X : Stand p l e R s m args below meth c T locs cells slots) (hx : p.tables.exec = Jvm.exec) (hZ : Z.Warmed39 s.vm) {own C : String} {index count : Nat} {xi y : MethodName}
    (hown : s.vm.findClass own = some m.cls) (w1 : (Jvm.Cond.methodLink own index xi).before a0 Z = true) (w2 : (Jvm.Cond.declares xi).before a0 Z = true) (w3 : (Jvm.Cond.interfaceMethod xi.cls xi.cls xi.name xi.desc).before a0 Z = true) (w4 : (Jvm.Cond.selects C xi y).before a0 Z = true) (w5 : (Jvm.Cond.instanceMethod y).before a0 Z = true)
    (w6 : (Jvm.Cond.publicMethod y).before a0 Z = true) (w7 : (Jvm.Cond.unhidden C xi.name xi.desc).before a0 Z = true) (w8 : (Jvm.Cond.castable C xi.cls).before a0 Z = true)
    (hy : xi.cls ≠ "java/lang/invoke/MethodHandle" ∧ xi.cls ≠ "java/lang/invoke/VarHandle") {W kc ks : Nat} {as' : Array Value} {Q : Option Value → Heap → List Loc → Prop}
    (hK : Back l R p e below s args y 5 W (fun A a => a = as' ∧ A.U.heap = h ∧ A.cells + kc ≤ R.cells ∧ A.slots + ks ≤ R.slots) (fun A _ v B => ∃ L, Q v B.U.heap L ∧ B.locs = A.locs ++ L ∧ B.cells = A.cells + kc ∧ B.slots = A.slots + ks))
    (eT : T.heap = h) {b : Addr} (E : Exa Z h b C) {g : JFrame} (hg : g.method = m) (hsize : g.locals.size = c.maxLocals) {argsL rest : List Value} (ha : (.ref b :: argsL).toArray = as') (hlen : ∀ sig, parseMethodDescriptor xi.desc = some sig → argsL.length = sig.parameters.length)
    (hstack : g.stack = argsL.reverse ++ .ref b :: rest) (hW : 2 * g.monitorRoom + (rest.map fun v => v.category).sum ≤ W) (hdg : decode c.code g.pc = .ok (.invokeinterface index count, 5)) (hc : cells + kc ≤ R.cells) (hs : slots + ks ≤ R.slots) :
    ∃ (v : Option Value) (T' : State) (L : List Loc), Stand p l e R s m args below meth c T' (locs ++ L) (cells + kc) (slots + ks) ∧ Q v T'.heap L ∧ ∀ t, Steps p.tables e below (T'.setTop { g with pc := g.pc + 5, stack := v.toList ++ rest }) t → Steps p.tables e below (T.setTop g) t := by
  obtain ⟨cq, kq, qa, qb, qc⟩ := isOf hZ eT E
  obtain ⟨v, vm₁, ⟨T', L', k', n'⟩, -, X', ⟨L, hq, hl, hk, hn⟩, st⟩ := X.interfaceBack hx (xi := xi) (y := y) hown (mvT hZ w1) (mvT hZ w2) (mvT hZ w3 (by simp [Cond.onTables, Cond.keepsFace, Cond.keeps, Cond.steady, Cond.faceAtom, hy.1, hy.2])) (mvT hZ w4) (mvT hZ w5) (mvT hZ w6) (mvT hZ w7) (mvT hZ w8) hy hK qa qb qc hg hsize (Steps.refl _) hlen hstack hW hdg (fun _ _ => ⟨ha, eT, hc, hs⟩)
  dsimp only [Pt.U, Pt.locs, Pt.cells, Pt.slots] at X' hq hl hk hn st
  subst hl hk hn
  exact ⟨v, T', L, X', hq, fun _ k => st.trans k⟩
/-- instanceof, whatever it says -/
theorem own_inst (X : Stand p l e R s m args below meth c T locs cells slots) (hx : p.tables.exec = Jvm.exec) (hZ : Z.Warmed39 s.vm) {own K C : String} {index : Nat} (hown : s.vm.findClass own = some m.cls) (w : (Jvm.Cond.classLink own index K).before a0 Z = true) (eT : T.heap = h) {a : Addr} (E : Exa Z h a C)
    {g : JFrame} (hg : g.method = m) {rest : List Value} (hs : g.stack = .ref a :: rest) (hd : decode c.code g.pc = .ok (.instanceof index, 3)) :
    ∃ (z : Int32) (T' : State), (z = 0 ∨ z = 1) ∧ Stand p l e R s m args below meth c T' locs cells slots ∧ T'.heap = h ∧ ∀ t, Steps p.tables e below (T'.setTop { g with pc := g.pc + 3, stack := .int z :: rest }) t → Steps p.tables e below (T.setTop g) t := by
  obtain ⟨cell, k, e1, e2, e3, e4, e5⟩ := E
  have w' : (Jvm.Cond.classLink own index K).before args s = true := mv hZ w
  have hpl : e.platform.magicAccessors = ({} : Platform).magicAccessors := by rw [X.admits.platform]
  obtain ⟨cT, hcT, -⟩ := Cond.classLink_spec hown w' e.platform hpl
  obtain ⟨k', q, -⟩ := hZ.alike.2.2 _ _ e3
  cases hb : s.vm.assignable cell.cls cT with
  | true =>
    obtain ⟨vm', X', st⟩ := X.instanceofYes hx hown w' (by rw [eT]; exact e1) e4 hcT hb hg hs hd
    exact ⟨1, _, Or.inr rfl, X', eT, st⟩
  | false =>
    obtain ⟨T', X', e', st⟩ := instNo X hx hZ hown w eT (C := C) ⟨cell, k, e1, e2, e3, e4, e5⟩ ⟨cell.cls, cT, e2, by rw [← hZ.alike.findClass]; exact hcT, by rw [← hZ.alike.assignable]; exact hb⟩ hg hs hd
    exact ⟨0, _, Or.inl rfl, X', e', st⟩
/-- a class that isn't among the superclasses and is no interface (the word instantiable says so) -/
theorem own_NSroot {O K : String} {n : Nat} (w : (Jvm.Cond.noSuperclass O).before a0 Z = true) (wk : (Jvm.Cond.instantiable K n).before a0 Z = true) (hn : O ≠ K) : NS Z O K := by
  obtain ⟨c, k, h1, h2, h3, -, -⟩ := Cond.noSuperclass_spec w
  obtain ⟨t, kt, g1, -⟩ := Cond.instantiable_spec wk
  have ne := ids_ne h1 g1 hn
  refine ⟨c, t, h1, g1, fun fuel => ?_⟩
  cases fuel with
  | zero => rfl
  | succ f => simp [Vm.isSubclassAux, ne, h2, h3]
theorem own_NSno {C S K : String} {n : Nat} (w : (Jvm.Cond.superclass C S).before a0 Z = true) (wk : (Jvm.Cond.instantiable K n).before a0 Z = true) (q : NS Z C K) (hn : C ≠ K) : ∃ c t, Z.vm.findClass C = some c ∧ Z.vm.findClass K = some t ∧ Z.vm.assignable c t = false := by
  obtain ⟨c, t, h0, g0, n3⟩ := q
  obtain ⟨p, k, kp, h1, h2, h3, h4, h5, -, h7⟩ := Cond.superclass_spec h0 w
  obtain ⟨t', kt, g1, g2, g3, g4, -⟩ := Cond.instantiable_spec wk
  cases g0.symm.trans g1
  have g5 : kt.isInterface = false := by simp only [Bool.or_eq_false_iff] at g4; exact g4.1
  have ne := ids_ne h0 g0 hn
  refine ⟨c, t, h0, g0, ?_⟩
  show Z.vm.assignableAux (255 + 1) c t = false
  simp [Vm.assignableAux, ne, h2, g2, h5, g3, g5, Vm.isSubclass, n3]
theorem own_pr (X : Stand p l e R s m args below meth c T locs cells slots) (hx : p.tables.exec = Jvm.exec) (hZ : Z.Warmed39 s.vm) {own C : String} {index : Nat} {y : MethodName} {bytes : ByteArray} {maxL : Nat} {ret : Option FieldType}
    (hown : s.vm.findClass own = some m.cls) (w1 : (Jvm.Cond.methodLink own index y).before a0 Z = true) (w2 : (Jvm.Cond.instanceMethod y).before a0 Z = true) (w3 : (Jvm.Cond.selects C y y).before a0 Z = true) (w4 : (Jvm.Cond.privateMethod y).before a0 Z = true) (w5 : (Jvm.Cond.code y bytes maxL ret).before a0 Z = true)
    (hy : y.cls ≠ "java/lang/invoke/MethodHandle" ∧ y.cls ≠ "java/lang/invoke/VarHandle") {W kc ks : Nat} {as' : Array Value} {Q : Option Value → Heap → List Loc → Prop}
    (hK : Back l R p e below s args y 3 W (fun A a => a = as' ∧ A.U.heap = h ∧ A.cells + kc ≤ R.cells ∧ A.slots + ks ≤ R.slots) (fun A _ v B => ∃ L, Q v B.U.heap L ∧ B.locs = A.locs ++ L ∧ B.cells = A.cells + kc ∧ B.slots = A.slots + ks))
    (eT : T.heap = h) {b : Addr} {C' : String} (E : Exa Z h b C') {g : JFrame} (hg : g.method = m) (hsize : g.locals.size = c.maxLocals) {argsL rest : List Value} (ha : (.ref b :: argsL).toArray = as') (hlen : ∀ sig, parseMethodDescriptor y.desc = some sig → argsL.length = sig.parameters.length)
    (hstack : g.stack = argsL.reverse ++ .ref b :: rest) (hW : 2 * g.monitorRoom + (rest.map fun v => v.category).sum ≤ W) (hdg : decode c.code g.pc = .ok (.invokevirtual index, 3)) (hc : cells + kc ≤ R.cells) (hs : slots + ks ≤ R.slots) :
    ∃ (v : Option Value) (T' : State) (L : List Loc), Stand p l e R s m args below meth c T' (locs ++ L) (cells + kc) (slots + ks) ∧ Q v T'.heap L ∧ ∀ t, Steps p.tables e below (T'.setTop { g with pc := g.pc + 3, stack := v.toList ++ rest }) t → Steps p.tables e below (T.setTop g) t := by
  obtain ⟨cq, q, q'⟩ := E.cell
  have hpriv : s.PrivateAt y := Cond.privateMethod_at (mvP hZ w4 (args := #[]))
  obtain ⟨mk, methM, hnamed, hmethM, hstM, habM⟩ := Cond.instanceMethod_spec (mvT (args := args) hZ w2)
  obtain ⟨methM', cM, hmethM', -, -, -, -, -, -, hsigM⟩ := Cond.code_spec hnamed (mvT (args := args) hZ w5)
  cases hmethM.symm.trans hmethM'
  obtain ⟨c2, r2, m2, -, -, q3, -, kP, hkP, hkPi⟩ := Cond.selects_spec (mvT (args := args) hZ w3)
  cases hnamed.symm.trans q3
  have hselP : selectMethod e.platform s.vm cq.cls mk = .method mk := selectMethod_private hmethM (hpriv mk methM hnamed hmethM)
  obtain ⟨vm₁, X₁, hstep₁⟩ := X.invokevirtual hx hown (mvT hZ w1) hnamed hmethM hstM hkP hkPi hy (a := b) (cell := cq) (by rw [eT]; exact q) q' hselP hmethM habM hkP hkPi (g := g) hg (argsL := argsL) (rest := rest) (hlen _ hsigM) hstack hdg
  obtain ⟨v, ⟨T', L', k', n'⟩, X', ⟨L, hq, hl, hk, hn⟩, hsteps⟩ := hK m meth c ⟨T.setVm vm₁, locs, cells, slots⟩ { g with stack := rest } (.invokevirtual index) mk (.ref b :: argsL).toArray X₁ hg hsize hdg hW (X₁.named hnamed) ⟨ha, eT, hc, hs⟩
  dsimp only [Pt.U, Pt.locs, Pt.cells, Pt.slots] at X' hq hl hk hn hsteps
  subst hl hk hn
  exact ⟨v, T', L, X', hq, fun _ k => (hstep₁ _ fun acts => by rw [doInvoke_state]; exact Steps.refl _).trans (hsteps.trans k)⟩
theorem own_selfp {y : MethodName} {n : Nat} (w3 : (Jvm.Cond.privateMethod y).before a0 Z = true) (wi : (Jvm.Cond.instanceMethod y).before a0 Z = true) (wk : (Jvm.Cond.instantiable y.cls n).before a0 Z = true) (hy : y.cls ≠ "java/lang/invoke/MethodHandle" ∧ y.cls ≠ "java/lang/invoke/VarHandle") : (Jvm.Cond.selects y.cls y y).before a0 Z = true := by
  obtain ⟨t, kt, g1, g2, g3, g4, -⟩ := Cond.instantiable_spec wk
  have g5 : kt.isInterface = false := by simp only [Bool.or_eq_false_iff] at g4; exact g4.1
  exact selects_self_of_private g1 g2 g5 (Cond.privateMethod_at w3) wi hy
/-- the entry's class has the method itself, and it is no interface: a 'selects' word of another method of that class says so -/
theorem own_same {y y' z : MethodName} {C : String} (hy : y.cls ≠ "java/lang/invoke/MethodHandle" ∧ y.cls ≠ "java/lang/invoke/VarHandle") (hc : z.cls = y.cls) (ws : (Jvm.Cond.selects C y' z).before a0 Z = true) (wi : (Jvm.Cond.instanceMethod y).before a0 Z = true) : (Jvm.Cond.sameMethod y.cls y.cls y.name y.desc).before a0 Z = true := by
  obtain ⟨mk, methM, hnamed, -⟩ := Cond.instanceMethod_spec wi
  obtain ⟨c2, r2, m2, -, -, q3, -, kP, hkP, hkPi⟩ := Cond.selects_spec ws
  have f1 := findClass_of_methodNamed hnamed
  have f2 := findClass_of_methodNamed q3
  rw [hc] at f2
  have e : m2.cls = mk.cls := Option.some.inj (f2.symm.trans f1)
  have f3 : Z.methodFound? y.cls y.name y.desc = some mk := State.methodFound?_of_named hnamed hy
  have f4 : Z.methodNamed? (⟨y.cls, y.name, y.desc⟩ : MethodName) = some mk := hnamed
  rw [e] at hkP
  simp [Cond.before, Cond.holds, Cond.value, f1, f3, f4, hkP, hkPi]
theorem own_su (X : Stand p l e R s m args below meth c T locs cells slots) (hx : p.tables.exec = Jvm.exec) (hZ : Z.Warmed39 s.vm) {own C : String} {index : Nat} {y : MethodName} {bytes : ByteArray} {maxL : Nat} {ret : Option FieldType}
    (hown : s.vm.findClass own = some m.cls) (w1 : (Jvm.Cond.methodLink own index y).before a0 Z = true) (w2 : (Jvm.Cond.sameMethod y.cls y.cls y.name y.desc).before a0 Z = true) (w3 : (Jvm.Cond.instanceMethod y).before a0 Z = true) (w4 : (Jvm.Cond.superclass own y.cls).before a0 Z = true) (hn : y.name ≠ "<init>") (w5 : (Jvm.Cond.code y bytes maxL ret).before a0 Z = true)
    {W kc ks : Nat} {as' : Array Value} {Q : Option Value → Heap → List Loc → Prop}
    (hK : Back l R p e below s args y 3 W (fun A a => a = as' ∧ A.U.heap = h ∧ A.cells + kc ≤ R.cells ∧ A.slots + ks ≤ R.slots) (fun A _ v B => ∃ L, Q v B.U.heap L ∧ B.locs = A.locs ++ L ∧ B.cells = A.cells + kc ∧ B.slots = A.slots + ks))
    (eT : T.heap = h) {b : Addr} (E : Exa Z h b C) {g : JFrame} (hg : g.method = m) (hsize : g.locals.size = c.maxLocals) {argsL rest : List Value} (ha : (.ref b :: argsL).toArray = as') (hlen : ∀ sig, parseMethodDescriptor y.desc = some sig → argsL.length = sig.parameters.length)
    (hstack : g.stack = argsL.reverse ++ .ref b :: rest) (hW : 2 * g.monitorRoom + (rest.map fun v => v.category).sum ≤ W) (hdg : decode c.code g.pc = .ok (.invokespecial index, 3)) (hc : cells + kc ≤ R.cells) (hs : slots + ks ≤ R.slots) :
    ∃ (v : Option Value) (T' : State) (L : List Loc), Stand p l e R s m args below meth c T' (locs ++ L) (cells + kc) (slots + ks) ∧ Q v T'.heap L ∧ ∀ t, Steps p.tables e below (T'.setTop { g with pc := g.pc + 3, stack := v.toList ++ rest }) t → Steps p.tables e below (T.setTop g) t := by
  obtain ⟨v, vm₁, ⟨T', L', k', n'⟩, -, X', ⟨L, hq, hl, hk, hn'⟩, st⟩ := superBack X hx hZ hown w1 w2 w3 w4 hn hK eT (Ins.self E) hg hsize w5 hlen hstack hW hdg (fun _ _ => ⟨ha, eT, hc, hs⟩)
  dsimp only [Pt.U, Pt.locs, Pt.cells, Pt.slots] at X' hq hl hk hn' st
  subst hl hk hn'
  exact ⟨v, T', L, X', hq, fun _ k => st.trans k⟩
end Own

theorem own_sat_in : ∀ d ∈ Bundle.stringAtoms, d ∈ tables_1 := by decide +kernel
theorem own_sat {Z : State} {a0 : Array Value} (hw : ∀ d ∈ tables_1, d.before a0 Z = true) : ∀ d ∈ Bundle.stringAtoms, d.before a0 Z = true := fun d hd => hw d (own_sat_in d hd)
def i' (z : Int32) : Slot := .val (.int z)
def r' (a : Addr) : Slot := .val (.ref a)
def u' : Slot := .unset
theorem own_i2c (x : Int32) : nar .char (x.toUInt32.toUInt16.toUInt32.toInt32) = x.toUInt32.toUInt16.toUInt32.toInt32 := by
  have a := c_i2c x
  have b := c_i2c (x.toUInt32.toUInt16.toUInt32.toInt32)
  apply Int32.toInt_inj.mp
  show ((x.toUInt32.toUInt16.toUInt32.toInt32).toUInt32.toUInt16.toUInt32.toInt32).toInt = _
  omega
theorem own_i2b (x : Int32) : nar .byte (x.toInt8.toInt32) = x.toInt8.toInt32 := by
  simp [nar]
theorem own_i2bb (x : Int32) : x.toInt8.toInt32.toInt8.toInt32 = x.toInt8.toInt32 := own_i2b x
theorem own_c255 (x : Int32) : ¬ (x &&& (255 : Int32)) < 0 ∧ ¬ (255 : Int32) < (x &&& (255 : Int32)) := by
  have a := c_and x 255 (by decide)
  have e : (255 : Int32).toInt = 255 := rfl
  have z : (0 : Int32).toInt = 0 := rfl
  rw [Int32.lt_iff_toInt_lt, Int32.lt_iff_toInt_lt]
  omega
theorem own_and255 (x : Int32) : ¬ ((x &&& (255 : Int32)).toUInt32.toUInt16.toUInt32.toInt32) < 0 ∧ ¬ (255 : Int32) < ((x &&& (255 : Int32)).toUInt32.toUInt16.toUInt32.toInt32) := by
  rw [i2c_mask]; exact own_c255 x
theorem own_narc {x : Int32} (h1 : ¬ x < (0 : Int32)) (h2 : ¬ (255 : Int32) < x) : nar .char x = x := by
  have a := c_i2c x
  have e : (255 : Int32).toInt = 255 := rfl
  have z : (0 : Int32).toInt = 0 := rfl
  rw [Int32.lt_iff_toInt_lt] at h1 h2
  apply Int32.toInt_inj.mp
  show x.toUInt32.toUInt16.toUInt32.toInt32.toInt = x.toInt
  omega
theorem own_one {x : Int32} (h1 : ¬ x < (0 : Int32)) (h2 : ¬ (255 : Int32) < x) : ∀ c ∈ ([x] : List Int32), ¬ c < 0 ∧ ¬ (255 : Int32) < c := fun c hc => by rw [List.mem_singleton.mp hc]; exact ⟨h1, h2⟩
/-- the String at a spells cs (Latin-1) -/
def own_Str (Z : State) (h : Heap) (a : Addr) (cs : List Int32) : Prop := ∃ (t : Addr) (kb : ClassId), Exa Z h a "java/lang/String" ∧ Fld Z h a "java/lang/String" "value" "[B" (.ref t) ∧ Fld Z h a "java/lang/String" "coder" "B" (.int 0) ∧ Arv Z h t kb .byte (Int32.ofNat cs.length) ((cs.map fun c => c.toInt8.toInt32).map Value.int) (.int 0) ∧ (∀ c ∈ cs, ¬ c < 0 ∧ ¬ (255 : Int32) < c) ∧ cs.length ≤ 4000
theorem own_Str_keep {Z : State} {h h' : Heap} {a : Addr} {cs : List Int32} (F : own_Str Z h a cs) (K : Keep h h' []) : own_Str Z h' a cs := by
  obtain ⟨t, kb, E, V, C, A, r⟩ := F
  exact ⟨t, kb, E.keep K, V.keep K nin0, C.keep K nin0, A.keep K nin0, r⟩
theorem own_up {cs : List Int32} (h : ∀ c ∈ cs, ¬ c < 0 ∧ ¬ (255 : Int32) < c) : ∀ c ∈ cs, ¬ c < 0 ∧ ¬ (65535 : Int32) < c := fun c hc => ⟨(h c hc).1, fun q => (h c hc).2 (by rw [Int32.lt_iff_toInt_lt] at q ⊢; have e1 : (65535 : Int32).toInt = 65535 := rfl; have e2 : (255 : Int32).toInt = 255 := rfl; omega)⟩
theorem own_l {x y : Int32} (h : x < y) : x.toInt < y.toInt := Int32.lt_iff_toInt_lt.mp h
theorem own_nl {x y : Int32} (h : ¬ x < y) : y.toInt ≤ x.toInt := Int.not_lt.mp fun q => h (Int32.lt_iff_toInt_lt.mpr q)
theorem own_ei {x y : Int32} (h : x = y) : x.toInt = y.toInt := congrArg _ h
theorem own_nei {x y : Int32} (h : ¬ x = y) : ¬ x.toInt = y.toInt := fun q => h (Int32.toInt_inj.mp q)
theorem own_l' {x y : Int32} (h : x.toInt < y.toInt) : x < y := Int32.lt_iff_toInt_lt.mpr h
theorem own_nl' {x y : Int32} (h : y.toInt ≤ x.toInt) : ¬ x < y := fun q => Int.not_lt.mpr h (Int32.lt_iff_toInt_lt.mp q)
theorem own_ei' {x y : Int32} (h : x.toInt = y.toInt) : x = y := Int32.toInt_inj.mp h
theorem own_nei' {x y : Int32} (h : ¬ x.toInt = y.toInt) : ¬ x = y := fun q => h (congrArg _ q)
theorem own_rg (x : Int32) : -2147483648 ≤ x.toInt ∧ x.toInt < 2147483648 := by
  have a := Int32.toInt_lt x
  have b := Int32.le_toInt x
  omega
theorem own_shr0 (x : Int32) : x >>> ((0 : Int32) &&& 31) = x := by
  apply Int32.toBitVec_inj.mp
  simp
section OwnSB
variable {p : Program} {l : Launch} {e : Env} {R : Room} {s : State} {m : MethodId} {args : Array Value} {below : List Frame} {meth : Method} {c : Code} {T : State} {locs : List Loc} {cells slots : Nat} {Z : State} {a0 : Array Value} {h : Heap}
def own_n (cs : List Int32) : Int32 := Int32.ofNat cs.length
def own_bs (cs : List Int32) : List Value := (cs.map fun c => c.toInt8.toInt32).map Value.int
theorem own_bs_len (cs : List Int32) : (own_bs cs).length = cs.length := by simp [own_bs]
theorem own_bs_app (a b : List Int32) : own_bs (a ++ b) = own_bs a ++ own_bs b := by simp [own_bs]
theorem own_nI {n : Nat} (h : n ≤ 4000) : (Int32.ofNat n).toInt = n := len_toInt (show n < 2 ^ 31 by omega)
theorem own_nN {n : Nat} (h : n ≤ 4000) : (Int32.ofNat n).toNatClampNeg = n ∧ ¬ Int32.ofNat n < 0 := by
  have e := own_nI h
  refine ⟨by simp only [Int32.toNatClampNeg, e]; omega, ?_⟩
  rw [Int32.lt_iff_toInt_lt, e]
  have z : (0 : Int32).toInt = 0 := rfl
  omega
theorem own_nadd {a b : Nat} : Int32.ofNat a + Int32.ofNat b = Int32.ofNat (a + b) := by
  apply Int32.toBitVec_inj.mp
  show BitVec.ofNat 32 a + BitVec.ofNat 32 b = BitVec.ofNat 32 (a + b)
  rw [← BitVec.ofNat_add]
theorem own_napp (a b : List Int32) : own_n a + own_n b = own_n (a ++ b) := by
  unfold own_n; rw [own_nadd, List.length_append]
theorem own_shl0 (x : Int32) : x <<< ((0 : Int32) &&& 31) = x := by
  apply Int32.toBitVec_inj.mp
  simp
theorem own_us (vs : List Value) (dv : Value) : vs = (List.range vs.length).map fun i => vs.getD (0 + i) dv := by
  apply List.ext_getElem
  · simp
  · intro i h1 h2
    simp [List.getD_eq_getElem?_getD, h1]
/-- System.arraycopy of the first bytes of a byte[] behind those of another -/
theorem own_cp (X : Stand p l e R s m args below meth c T locs cells slots) (hx : p.tables.exec = Jvm.exec) (hZ : Z.Warmed39 s.vm) {own : String} {index : Nat} (hown : s.vm.findClass own = some m.cls)
    (w1 : (Jvm.Cond.methodLink own index Jvm.Stand.acN).before a0 Z = true) (w2 : (Jvm.Cond.native Jvm.Stand.acN).before a0 Z = true) (w3 : (Jvm.Cond.static Jvm.Stand.acN).before a0 Z = true) (w4 : (Jvm.Cond.initialized "java/lang/System").before a0 Z = true) (eT : T.heap = h)
    {a b : Addr} {k k' : ClassId} {z z' : Int32} {cs ds : List Int32} (A : Arv Z h a k .byte z (own_bs ds) (.int 0)) (B : Arv Z h b k' .byte z' (own_bs cs) (.int 0)) (hd : ds.length ≤ 4000) (hc : cs.length ≤ 4000) (hza : ds.length ≤ z.toNatClampNeg) (hz : cs.length + ds.length ≤ z'.toNatClampNeg)
    {n0 : Nat} (N : Fr n0 locs) (ge : n0 ≤ b) {g : JFrame} (hg : g.method = m) (hsize : g.locals.size = c.maxLocals) {rest : List Value} (hs : g.stack = .int (own_n ds) :: .int (own_n cs) :: .ref b :: .int 0 :: .ref a :: rest) (hdc : decode c.code g.pc = .ok (.invokestatic index, 3))
    (hf : 1 ≤ R.frames) {W : Nat} (hW : 2 * g.monitorRoom + (rest.map fun v => v.category).sum ≤ W) (hlo : W + (nativeFrameWords "java/lang/System" "arraycopy" 5 + 11) ≤ R.locals) :
    ∃ T' h' L, Stand p l e R s m args below meth c T' L cells slots ∧ T'.heap = h' ∧ Fr n0 L ∧ Keep h h' [b] ∧ Arv Z h' b k' .byte z' (own_bs (cs ++ ds)) (.int 0) ∧
      ∀ target, Steps p.tables e below (T'.setTop { g with pc := g.pc + 3, stack := rest }) target → Steps p.tables e below (T.setTop g) target := by
  have B' : Arv Z h b k' .byte z' (own_bs cs ++ List.replicate ds.length (.int 0)) (.int 0) := B.pad (pad_rep _ _ _)
  obtain ⟨c1, c2⟩ := own_nN hc
  obtain ⟨d1, d2⟩ := own_nN hd
  obtain ⟨T', h', L, X', e', N', K', V', st⟩ := cpA X hx hZ hown w1 w2 w3 w4 eT A B' (us := own_bs ds) (sp := 0) (dp := own_n cs) (nn := own_n ds) (Or.inl ⟨rfl, rfl⟩) (by decide) c2 d2
    (by show (0 : Int32).toNatClampNeg + (Int32.ofNat ds.length).toNatClampNeg ≤ _; rw [d1]; show 0 + _ ≤ _; omega)
    (by show (Int32.ofNat cs.length).toNatClampNeg + (Int32.ofNat ds.length).toNatClampNeg ≤ _; rw [c1, d1]; exact hz)
    (by show own_bs ds = (List.range (Int32.ofNat ds.length).toNatClampNeg).map _; rw [d1, ← own_bs_len ds]; exact own_us (own_bs ds) (.int 0))
    (by show (Int32.ofNat cs.length).toNatClampNeg + (Int32.ofNat ds.length).toNatClampNeg ≤ _; rw [c1, d1]; simp [own_bs_len]) N ge hg hsize hs hdc hf hW hlo
  refine ⟨T', h', L, X', e', N', K', ?_, st⟩
  have q : (own_bs cs ++ List.replicate ds.length (Value.int 0)).take (own_n cs).toNatClampNeg ++ own_bs ds ++ (own_bs cs ++ List.replicate ds.length (Value.int 0)).drop ((own_n cs).toNatClampNeg + (own_n ds).toNatClampNeg) = own_bs (cs ++ ds) := by
    have e1 : (own_n cs).toNatClampNeg = cs.length := c1
    have e2 : (own_n ds).toNatClampNeg = ds.length := d1
    rw [e1, e2, own_bs_app, List.take_left' (own_bs_len cs), List.drop_eq_nil_of_le (by simp [own_bs_len]), List.append_nil]
  rw [q] at V'
  exact V'
end OwnSB
theorem own_n1 (cs : List Int32) (q : Int32) : own_n cs + (1 : Int32) = own_n (cs ++ [q]) := own_napp cs [q]
theorem own_bset (cs : List Int32) (q : Int32) : (own_bs cs ++ [Value.int 0]).set cs.length (.int (q.toInt8.toInt32)) = own_bs (cs ++ [q]) := by
  rw [own_bs_app, ← own_bs_len cs]
  simp [own_bs]
theorem own_cap {cs ds : List Int32} (h : cs.length + ds.length ≤ 16) : ¬ (0 : Int32) < ((own_n cs) + (own_n ds)) - (16 : Int32) := by
  have e : own_n cs + own_n ds = Int32.ofNat (cs.length + ds.length) := own_nadd
  rw [e, Int32.lt_iff_toInt_lt, Int32.toInt_sub, own_nI (by omega)]
  have z : (0 : Int32).toInt = 0 := rfl
  have t : (16 : Int32).toInt = 16 := rfl
  rw [z, t]
  have q := bm32 (((cs.length + ds.length : Nat) : Int) - 16)
  have q1 := Int.bmod_lt (x := ((cs.length + ds.length : Nat) : Int) - 16) (m := 2 ^ 32) (by decide)
  have q2 := Int.le_bmod (x := ((cs.length + ds.length : Nat) : Int) - 16) (m := 2 ^ 32) (by decide)
  omega
theorem own_n_lt {cs : List Int32} {k : Nat} {z : Int32} (hz : z.toInt = k) (h : cs.length < k) (hk : k ≤ 4000) : own_n cs < z := by
  have e : (own_n cs).toInt = cs.length := own_nI (by omega)
  rw [Int32.lt_iff_toInt_lt, hz, e]; omega
theorem own_n_ne {cs : List Int32} {k : Nat} {z : Int32} (hz : z.toInt = k) (h : cs.length < k) (hk : k ≤ 4000) : ¬ own_n cs = z := fun q => by
  have e : (own_n cs).toInt = cs.length := own_nI (by omega)
  rw [q, hz] at e; omega
theorem own_n_nn {cs : List Int32} (h : cs.length ≤ 4000) : ¬ own_n cs < (0 : Int32) := (own_nN h).2
theorem own_cap1 {cs : List Int32} (h : cs.length + 1 ≤ 16) : ¬ (0 : Int32) < ((own_n cs) + (1 : Int32)) - (16 : Int32) := own_cap (ds := [0]) h
/-! UTF-16 bytes: HI_BYTE_SHIFT is 0, LO_BYTE_SHIFT is 8 -/
def own_lo (c : Int32) : Int32 := ((c >>> ((0 : Int32) &&& 31)).toInt8.toInt32)
def own_hi (c : Int32) : Int32 := ((c >>> ((8 : Int32) &&& 31)).toInt8.toInt32)
def own_u : List Int32 → List Value
  | [] => []
  | c :: cs => .int (own_lo c) :: .int (own_hi c) :: own_u cs
theorem own_u_len (cs : List Int32) : (own_u cs).length = 2 * cs.length := by
  induction cs with
  | nil => rfl
  | cons c cs ih => simp only [own_u, List.length_cons, ih]; omega
theorem own_u_app (a b : List Int32) : own_u (a ++ b) = own_u a ++ own_u b := by
  induction a with
  | nil => rfl
  | cons c cs ih => simp only [List.cons_append, own_u, ih]
theorem own_u_get {cs : List Int32} {j : Nat} {c : Int32} (h : cs[j]? = some c) : (own_u cs)[2 * j]? = some (.int (own_lo c)) ∧ (own_u cs)[2 * j + 1]? = some (.int (own_hi c)) := by
  induction cs generalizing j with
  | nil => cases h
  | cons x cs ih =>
    cases j with
    | zero => cases h; exact ⟨rfl, rfl⟩
    | succ j =>
      have q := ih (j := j) h
      have e1 : 2 * (j + 1) = 2 * j + 1 + 1 := by omega
      rw [e1]
      exact q
theorem own_rt {c : Int32} (h1 : ¬ c < (0 : Int32)) (h2 : ¬ (65535 : Int32) < c) : ((((own_lo c &&& (255 : Int32)) <<< ((0 : Int32) &&& 31)) ||| ((own_hi c &&& (255 : Int32)) <<< ((8 : Int32) &&& 31))).toUInt32.toUInt16.toUInt32.toInt32) = c := by
  have a1 := own_nl h1
  have a2 := own_nl h2
  have z : (0 : Int32).toInt = 0 := rfl
  have t : (65535 : Int32).toInt = 65535 := rfl
  have e1 := c_ishr c 0 0 (by decide)
  have e2 := c_ishr c 8 8 (by decide)
  have b1 := c_i2b (c >>> ((0 : Int32) &&& 31))
  have b2 := c_i2b (c >>> ((8 : Int32) &&& 31))
  have m1 := c_mask (own_lo c) 255 8 (by decide) (by decide)
  have m2 := c_mask (own_hi c) 255 8 (by decide) (by decide)
  have s1 := c_ishl (own_lo c &&& (255 : Int32)) 0 0 (by decide)
  have s2 := c_ishl (own_hi c &&& (255 : Int32)) 8 8 (by decide)
  have l1 : (own_lo c).toInt = (c >>> ((0 : Int32) &&& 31)).toInt8.toInt32.toInt := rfl
  have l2 : (own_hi c).toInt = (c >>> ((8 : Int32) &&& 31)).toInt8.toInt32.toInt := rfl
  generalize (own_lo c &&& (255 : Int32)) = x at m1 s1 ⊢
  generalize (own_hi c &&& (255 : Int32)) = y at m2 s2 ⊢
  generalize (x <<< ((0 : Int32) &&& 31)) = u at s1 ⊢
  generalize (y <<< ((8 : Int32) &&& 31)) = v at s2 ⊢
  have r1 := own_rg u
  have r2 := own_rg v
  have o := c_or' u v 8 (by decide) 256 (by decide)
  have i := c_i2c (u ||| v)
  have r3 := own_rg (u ||| v)
  simp only [Nat.reducePow] at e1 e2 m1 m2 s1 s2
  have o' := o (by omega) (by omega) (by omega)
  apply Int32.toInt_inj.mp
  omega
/-! UTF-16 Strings and builders -/
def own_n2 (cs : List Int32) : Int32 := Int32.ofNat (2 * cs.length)
def own_bd (cs : List Int32) : Prop := ∀ c ∈ cs, ¬ c < (0 : Int32) ∧ ¬ (65535 : Int32) < c
def own_b8 (cs : List Int32) : Prop := ∀ c ∈ cs, ¬ (255 : Int32) < c
theorem own_bd0 : own_bd [] := fun _ h => nomatch h
theorem own_b80 : own_b8 [] := fun _ h => nomatch h
theorem own_bda {a b : List Int32} (x : own_bd a) (y : own_bd b) : own_bd (a ++ b) := fun c hc => (List.mem_append.mp hc).elim (x c) (y c)
theorem own_b8a {a b : List Int32} (x : own_b8 a) (y : own_b8 b) : own_b8 (a ++ b) := fun c hc => (List.mem_append.mp hc).elim (x c) (y c)
theorem own_bd1 {z : Int32} (h1 : ¬ z < (0 : Int32)) (h2 : ¬ (65535 : Int32) < z) : own_bd [z] := fun c hc => by rw [List.mem_singleton.mp hc]; exact ⟨h1, h2⟩
theorem own_b81 {z : Int32} (h2 : ¬ (255 : Int32) < z) : own_b8 [z] := fun c hc => by rw [List.mem_singleton.mp hc]; exact h2
theorem own_16 {z : Int32} (h2 : ¬ (255 : Int32) < z) : ¬ (65535 : Int32) < z := fun q => h2 (own_l' (by have a := own_l q; have e1 : (65535 : Int32).toInt = 65535 := rfl; have e2 : (255 : Int32).toInt = 255 := rfl; omega))
theorem own_bdz {xs : List Int32} {j : Nat} {z : Int32} (h : own_bd xs) (g : xs[j]? = some z) : ¬ z < (0 : Int32) ∧ ¬ (65535 : Int32) < z := h z (List.mem_of_getElem? g)
theorem own_b8z {xs : List Int32} {j : Nat} {z : Int32} (h : own_b8 xs) (g : xs[j]? = some z) : ¬ (255 : Int32) < z := h z (List.mem_of_getElem? g)
theorem own_gl {xs : List Int32} {j : Nat} {z : Int32} (h : xs[j]? = some z) : j < xs.length := by
  obtain ⟨q, -⟩ := List.getElem?_eq_some_iff.mp h
  exact q
theorem own_jI {n : Nat} (h : n < 2147483648) : (Int32.ofNat n).toInt = n := len_toInt (show n < 2 ^ 31 by omega)
theorem own_jN {n : Nat} (h : n < 2147483648) : (Int32.ofNat n).toNatClampNeg = n := by simp only [Int32.toNatClampNeg, own_jI h]; omega
theorem own_jz {n : Nat} (h : n < 2147483648) : ¬ Int32.ofNat n < (0 : Int32) := own_nl' (by
  rw [own_jI h]
  have z : (0 : Int32).toInt = 0 := rfl
  omega)
theorem own_jlt {n : Nat} {z : Int32} (h : n < z.toNatClampNeg) : Int32.ofNat n < z := by
  have r := own_rg z
  have e : z.toNatClampNeg = z.toInt.toNat := rfl
  have h1 : n < 2147483648 := by omega
  exact own_l' (by rw [own_jI h1]; omega)
theorem own_jlt2 {n k : Nat} (h : n < k) (hk : k < 2147483648) : Int32.ofNat n < Int32.ofNat k := own_l' (by
  rw [own_jI (show n < 2147483648 by omega), own_jI hk]; omega)
theorem own_j16 {n : Nat} (h : n < 16) : Int32.ofNat n < (16 : Int32) := own_l' (by
  rw [own_jI (show n < 2147483648 by omega)]
  have t : (16 : Int32).toInt = 16 := rfl
  omega)
theorem own_shl1 {n : Nat} (h : n ≤ 4000) : (Int32.ofNat n) <<< ((1 : Int32) &&& 31) = Int32.ofNat (2 * n) := by
  have e := c_ishl (Int32.ofNat n) 1 1 (by decide)
  have r := own_rg ((Int32.ofNat n) <<< ((1 : Int32) &&& 31))
  have a := own_jI (n := n) (by omega)
  have b := own_jI (n := 2 * n) (by omega)
  simp only [Nat.reducePow] at e
  apply Int32.toInt_inj.mp
  rw [a] at e
  rw [b]
  omega
theorem own_shr1 {n : Nat} (h : n ≤ 4000) : (Int32.ofNat (2 * n)) >>> ((1 : Int32) &&& 31) = Int32.ofNat n := by
  have e := c_ishr (Int32.ofNat (2 * n)) 1 1 (by decide)
  have a := own_jI (n := n) (by omega)
  have b := own_jI (n := 2 * n) (by omega)
  simp only [Nat.reducePow] at e
  apply Int32.toInt_inj.mp
  rw [e, a, b]
  omega
theorem own_shl2 {cs : List Int32} (h : cs.length ≤ 4000) : own_n cs <<< ((1 : Int32) &&& 31) = own_n2 cs := own_shl1 h
theorem own_shr2 {cs : List Int32} (h : cs.length ≤ 4000) : own_n2 cs >>> ((1 : Int32) &&& 31) = own_n cs := own_shr1 h
theorem own_o1 (n : Nat) : Int32.ofNat n + (1 : Int32) = Int32.ofNat (n + 1) := own_nadd (a := n) (b := 1)
theorem own_n2o (xs : List Int32) : own_n2 xs + (1 : Int32) = Int32.ofNat (2 * xs.length + 1) := own_o1 _
theorem own_n1' (a b : List Int32) (z : Int32) : own_n (a ++ b) + (1 : Int32) = own_n (a ++ (b ++ [z])) := by rw [own_n1 (a ++ b) z, List.append_assoc]
theorem own_or0 {a b : Int32} (x : ¬ a < (0 : Int32)) (y : ¬ b < (0 : Int32)) : ¬ (a ||| b) < (0 : Int32) := by
  have z : (0 : Int32).toInt = 0 := rfl
  have h1 := own_nl x
  have h2 := own_nl y
  have e : a.toBitVec.toNat < 2147483648 := by
    have q := BitVec.toInt_eq_toNat_cond a.toBitVec
    have r := a.toBitVec.isLt
    have t : a.toInt = a.toBitVec.toInt := rfl
    split at q <;> omega
  have f : b.toBitVec.toNat < 2147483648 := by
    have q := BitVec.toInt_eq_toNat_cond b.toBitVec
    have r := b.toBitVec.isLt
    have t : b.toInt = b.toBitVec.toInt := rfl
    split at q <;> omega
  have g : (a ||| b).toBitVec.toNat < 2 ^ 31 := by
    show (a.toBitVec ||| b.toBitVec).toNat < 2 ^ 31
    rw [BitVec.toNat_or]
    exact Nat.or_lt_two_pow e f
  apply own_nl'
  have q := BitVec.toInt_eq_toNat_cond (a ||| b).toBitVec
  have t : (a ||| b).toInt = (a ||| b).toBitVec.toInt := rfl
  split at q <;> omega
theorem own_room {cs ds : List Int32} (h : cs.length + ds.length ≤ 16) : ¬ ((16 : Int32) - own_n cs) < own_n ds := by
  have a : (own_n cs).toInt = cs.length := own_jI (by omega)
  have b : (own_n ds).toInt = ds.length := own_jI (by omega)
  have t : (16 : Int32).toInt = 16 := rfl
  have q := c_isub (16 : Int32) (own_n cs)
  have r := own_rg ((16 : Int32) - own_n cs)
  exact own_nl' (by omega)
theorem own_c2 {xs : List Int32} (h : xs.length ≤ 4000) : 2 * xs.length ≤ (own_n2 xs).toNatClampNeg := by
  have e : (own_n2 xs).toNatClampNeg = 2 * xs.length := own_jN (by omega)
  omega
theorem own_nu {cs : List Int32} (h : cs.length ≤ 4000) : (own_n2 cs).toNatClampNeg = (own_u cs).length ∧ ¬ own_n2 cs < (0 : Int32) := ⟨by rw [own_u_len]; exact own_jN (by omega), own_jz (by omega)⟩
theorem own_nb {cs : List Int32} (h : cs.length ≤ 4000) : (own_n cs).toNatClampNeg = (own_bs cs).length ∧ ¬ own_n cs < (0 : Int32) := ⟨by rw [own_bs_len]; exact own_jN (by omega), own_jz (by omega)⟩
theorem own_u_gD {xs : List Int32} {j : Nat} {z : Int32} (h : xs[j]? = some z) (hj : j ≤ 4000) : (own_u xs).getD (Int32.ofNat (2 * j)).toNatClampNeg (.int 0) = .int (own_lo z) ∧ (own_u xs).getD (Int32.ofNat (2 * j + 1)).toNatClampNeg (.int 0) = .int (own_hi z) := by
  have q := own_u_get h
  refine ⟨?_, ?_⟩
  · rw [own_jN (show 2 * j < 2147483648 by omega)]; simp [List.getD_eq_getElem?_getD, q.1]
  · rw [own_jN (show 2 * j + 1 < 2147483648 by omega)]; simp [List.getD_eq_getElem?_getD, q.2]
theorem own_bs_gD {xs : List Int32} {j : Nat} {z : Int32} (h : xs[j]? = some z) (hj : j ≤ 4000) : (own_bs xs).getD (Int32.ofNat j).toNatClampNeg (.int 0) = .int (z.toInt8.toInt32) := by
  rw [own_jN (show j < 2147483648 by omega)]; simp [own_bs, List.getD_eq_getElem?_getD, h]
theorem own_mid (dn td : List Int32) (z : Int32) : (dn ++ z :: td)[dn.length]? = some z := by
  rw [List.getElem?_append_right (Nat.le_refl _), Nat.sub_self]; rfl
theorem own_l8a {z : Int32} (h1 : ¬ z < (0 : Int32)) (h2 : ¬ (255 : Int32) < z) : ((z.toInt8.toInt32) &&& (255 : Int32)) = z := by
  have a1 := own_nl h1
  have a2 := own_nl h2
  have z0 : (0 : Int32).toInt = 0 := rfl
  have t : (255 : Int32).toInt = 255 := rfl
  have b := c_i2b z
  have m := c_mask (z.toInt8.toInt32) 255 8 (by decide) (by decide)
  simp only [Nat.reducePow] at m
  apply Int32.toInt_inj.mp
  omega
theorem own_l8 {z : Int32} (h1 : ¬ z < (0 : Int32)) (h2 : ¬ (255 : Int32) < z) : (((z.toInt8.toInt32) &&& (255 : Int32)).toUInt32.toUInt16.toUInt32.toInt32) = z := by
  rw [own_l8a h1 h2]
  have a1 := own_nl h1
  have a2 := own_nl h2
  have z0 : (0 : Int32).toInt = 0 := rfl
  have t : (255 : Int32).toInt = 255 := rfl
  have i := c_i2c z
  apply Int32.toInt_inj.mp
  omega
theorem own_nar16 {z : Int32} (h1 : ¬ z < (0 : Int32)) (h2 : ¬ (65535 : Int32) < z) : nar .char z = z := by
  have a := c_i2c z
  have a1 := own_nl h1
  have a2 := own_nl h2
  have z0 : (0 : Int32).toInt = 0 := rfl
  have t : (65535 : Int32).toInt = 65535 := rfl
  apply Int32.toInt_inj.mp
  show z.toUInt32.toUInt16.toUInt32.toInt32.toInt = z.toInt
  omega
theorem own_i2c0 (x : Int32) : ¬ (x.toUInt32.toUInt16.toUInt32.toInt32) < (0 : Int32) ∧ ¬ (65535 : Int32) < (x.toUInt32.toUInt16.toUInt32.toInt32) := by
  have a := c_i2c x
  have z0 : (0 : Int32).toInt = 0 := rfl
  have t : (65535 : Int32).toInt = 65535 := rfl
  exact ⟨own_nl' (by omega), own_nl' (by omega)⟩
theorem own_set2 (l : List Value) (a b x : Value) : (l ++ [a, b]).set l.length x = l ++ [x, b] := by
  induction l with
  | nil => rfl
  | cons y t ih => exact congrArg (List.cons y) ih
theorem own_set3 (l : List Value) (a b x : Value) : (l ++ [a, b]).set (l.length + 1) x = l ++ [a, x] := by
  induction l with
  | nil => rfl
  | cons y t ih => exact congrArg (List.cons y) ih
theorem own_us1 (xs : List Int32) (z : Int32) : (own_u xs ++ [Value.int 0, Value.int 0]).set (2 * xs.length) (.int ((z >>> ((0 : Int32) &&& 31)).toInt8.toInt32)) = own_u xs ++ [Value.int (own_lo z), Value.int 0] := by
  rw [← own_u_len xs]; exact own_set2 _ _ _ _
theorem own_us2 (xs : List Int32) (z : Int32) : (own_u xs ++ [Value.int (own_lo z), Value.int 0]).set (2 * xs.length + 1) (.int ((z >>> ((8 : Int32) &&& 31)).toInt8.toInt32)) = own_u (xs ++ [z]) := by
  rw [own_u_app, ← own_u_len xs]; exact own_set3 _ _ _ _
/-! the String at q spells ds -/
def own_S (Z : State) (h : Heap) (q : Addr) (ds : List Int32) : Prop := ∃ (t : Addr) (kq : ClassId), Exa Z h q "java/lang/String" ∧ Fld Z h q "java/lang/String" "value" "[B" (.ref t) ∧ own_bd ds ∧ ds.length ≤ 4000 ∧ ((Fld Z h q "java/lang/String" "coder" "B" (.int (0 : Int32)) ∧ Arv Z h t kq .byte (own_n ds) (own_bs ds) (.int (0 : Int32)) ∧ own_b8 ds) ∨ (Fld Z h q "java/lang/String" "coder" "B" (.int (1 : Int32)) ∧ Arv Z h t kq .byte (own_n2 ds) (own_u ds) (.int (0 : Int32))))
/-- .. and its array isn't b -/
def own_SF (Z : State) (h : Heap) (q : Addr) (ds : List Int32) (b : Addr) : Prop := ∃ (t : Addr) (kq : ClassId), t ≠ b ∧ Exa Z h q "java/lang/String" ∧ Fld Z h q "java/lang/String" "value" "[B" (.ref t) ∧ own_bd ds ∧ ds.length ≤ 4000 ∧ ((Fld Z h q "java/lang/String" "coder" "B" (.int (0 : Int32)) ∧ Arv Z h t kq .byte (own_n ds) (own_bs ds) (.int (0 : Int32)) ∧ own_b8 ds) ∨ (Fld Z h q "java/lang/String" "coder" "B" (.int (1 : Int32)) ∧ Arv Z h t kq .byte (own_n2 ds) (own_u ds) (.int (0 : Int32))))
theorem own_S_keep {Z : State} {h h' : Heap} {q : Addr} {ds : List Int32} (F : own_S Z h q ds) (K : Keep h h' []) : own_S Z h' q ds := by
  obtain ⟨t, kq, E, V, b, n, r⟩ := F
  refine ⟨t, kq, E.keep K, V.keep K nin0, b, n, ?_⟩
  rcases r with ⟨C, A, u⟩ | ⟨C, A⟩
  · exact Or.inl ⟨C.keep K nin0, A.keep K nin0, u⟩
  · exact Or.inr ⟨C.keep K nin0, A.keep K nin0⟩
theorem own_S_exa {Z : State} {h : Heap} {q : Addr} {ds : List Int32} (F : own_S Z h q ds) : Exa Z h q "java/lang/String" := by
  obtain ⟨t, kq, E, -⟩ := F
  exact E
theorem own_S_len {Z : State} {h : Heap} {q : Addr} {ds : List Int32} (F : own_S Z h q ds) : ds.length ≤ 4000 := by
  obtain ⟨t, kq, E, V, b, n, r⟩ := F
  exact n
theorem own_S_bd {Z : State} {h : Heap} {q : Addr} {ds : List Int32} (F : own_S Z h q ds) : own_bd ds := by
  obtain ⟨t, kq, E, V, b, n, r⟩ := F
  exact b
theorem own_SF_of {Z : State} {h h' : Heap} {q b : Addr} {ds : List Int32} (F : own_S Z h q ds) (le : h.size ≤ b) (K : Keep h h' []) : own_SF Z h' q ds b := by
  obtain ⟨t, kq, E, V, bd, n, r⟩ := F
  have hb : t ≠ b := by
    rcases r with ⟨C, A, u⟩ | ⟨C, A⟩
    · exact Nat.ne_of_lt (Nat.lt_of_lt_of_le A.lt le)
    · exact Nat.ne_of_lt (Nat.lt_of_lt_of_le A.lt le)
  refine ⟨t, kq, hb, E.keep K, V.keep K nin0, bd, n, ?_⟩
  rcases r with ⟨C, A, u⟩ | ⟨C, A⟩
  · exact Or.inl ⟨C.keep K nin0, A.keep K nin0, u⟩
  · exact Or.inr ⟨C.keep K nin0, A.keep K nin0⟩
theorem own_SF_S {Z : State} {h : Heap} {q b : Addr} {ds : List Int32} (F : own_SF Z h q ds b) : own_S Z h q ds := by
  obtain ⟨t, kq, -, r⟩ := F
  exact ⟨t, kq, r⟩
theorem own_SF_keep {Z : State} {h h' : Heap} {q b : Addr} {ds : List Int32} (F : own_SF Z h q ds b) (K : Keep h h' []) : own_SF Z h' q ds b := by
  obtain ⟨t, kq, hb, r⟩ := F
  have S : own_S Z h q ds := ⟨t, kq, r⟩
  obtain ⟨E, V, bd, n, r⟩ := r
  refine ⟨t, kq, hb, E.keep K, V.keep K nin0, bd, n, ?_⟩
  rcases r with ⟨C, A, u⟩ | ⟨C, A⟩
  · exact Or.inl ⟨C.keep K nin0, A.keep K nin0, u⟩
  · exact Or.inr ⟨C.keep K nin0, A.keep K nin0⟩
/-- the StringBuilder at a, its array t, spells cs -/
def own_B (Z : State) (h : Heap) (a t : Addr) (cs : List Int32) : Prop := Exa Z h a "java/lang/StringBuilder" ∧ Fld Z h a "java/lang/AbstractStringBuilder" "value" "[B" (.ref t) ∧ Fld Z h a "java/lang/AbstractStringBuilder" "count" "I" (.int (own_n cs)) ∧ Fld Z h a "java/lang/AbstractStringBuilder" "maybeLatin1" "Z" (.int (0 : Int32)) ∧ own_bd cs ∧ ((Fld Z h a "java/lang/AbstractStringBuilder" "coder" "B" (.int (0 : Int32)) ∧ own_b8 cs ∧ ∃ kb, Arv Z h t kb .byte (16 : Int32) (own_bs cs) (.int (0 : Int32))) ∨ (Fld Z h a "java/lang/AbstractStringBuilder" "coder" "B" (.int (1 : Int32)) ∧ ∃ kb, Arv Z h t kb .byte (32 : Int32) (own_u cs) (.int (0 : Int32))))
theorem own_B_keep {Z : State} {h h' : Heap} {a t : Addr} {cs : List Int32} (F : own_B Z h a t cs) (K : Keep h h' []) : own_B Z h' a t cs := by
  obtain ⟨E, V, N, M, b, r⟩ := F
  refine ⟨E.keep K, V.keep K nin0, N.keep K nin0, M.keep K nin0, b, ?_⟩
  rcases r with ⟨C, u, kb, A⟩ | ⟨C, kb, A⟩
  · exact Or.inl ⟨C.keep K nin0, u, kb, A.keep K nin0⟩
  · exact Or.inr ⟨C.keep K nin0, kb, A.keep K nin0⟩
theorem own_t2 {h h0 : Heap} {t t2 : Addr} (q : t2 = t ∨ h.size ≤ t2) (a : h0.size ≤ t) (b : h0.size ≤ h.size) : h0.size ≤ t2 := by
  rcases q with rfl | q
  · exact a
  · exact Nat.le_trans b q
theorem own_ltn {n : Nat} {xs : List Int32} (h : Int32.ofNat n < own_n xs) (hn : n ≤ 4000) (hl : xs.length ≤ 4000) : n < xs.length := by
  have a := own_l h
  have b : (own_n xs).toInt = xs.length := own_jI (by omega)
  rw [own_jI (show n < 2147483648 by omega), b] at a
  omega
theorem own_gen {n : Nat} {xs : List Int32} (h : ¬ Int32.ofNat n < own_n xs) (hn : n ≤ 4000) (hl : xs.length ≤ 4000) : xs.length ≤ n := by
  have a := own_nl h
  have b : (own_n xs).toInt = xs.length := own_jI (by omega)
  rw [own_jI (show n < 2147483648 by omega), b] at a
  omega
theorem own_eqn {n : Nat} {xs : List Int32} (h : Int32.ofNat n = own_n xs) (hn : n ≤ 4000) (hl : xs.length ≤ 4000) : n = xs.length := by
  have a := own_ei h
  have b : (own_n xs).toInt = xs.length := own_jI (by omega)
  rw [own_jI (show n < 2147483648 by omega), b] at a
  omega
theorem own_nen {n : Nat} {xs : List Int32} (h : ¬ Int32.ofNat n = own_n xs) : ¬ n = xs.length := fun q => h (by rw [q]; rfl)
theorem own_gz {n : Nat} {xs : List Int32} (h : Int32.ofNat n < own_n xs) (hn : n ≤ 4000) (hl : xs.length ≤ 4000) : ∃ z, xs[n]? = some z := ⟨_, List.getElem?_eq_getElem (own_ltn h hn hl)⟩
theorem own_sub {a b : Nat} (h : b ≤ a) (ha : a ≤ 4000) : Int32.ofNat a - Int32.ofNat b = Int32.ofNat (a - b) := by
  have q := c_isub (Int32.ofNat a) (Int32.ofNat b)
  have r := own_rg (Int32.ofNat a - Int32.ofNat b)
  have x := own_jI (n := a) (by omega)
  have y := own_jI (n := b) (by omega)
  have z := own_jI (n := a - b) (by omega)
  apply Int32.toInt_inj.mp
  omega
theorem own_e1 {A B : List Int32} {n : Nat} {z : Int32} (h : (A ++ B)[n]? = some z) (hl : n < A.length) : A[n]? = some z := by
  rw [List.getElem?_append_left hl] at h
  exact h
theorem own_e2 {A B : List Int32} {x z : Int32} {n : Nat} (h : (A ++ x :: B)[n]? = some z) (hn : n = A.length) : x = z := by
  subst hn
  rw [List.getElem?_append_right (Nat.le_refl _), Nat.sub_self] at h
  exact Option.some.inj h
theorem own_e3 {A B : List Int32} {x z : Int32} {n : Nat} (h : (A ++ x :: B)[n]? = some z) (hn : A.length < n) : B[n - A.length - 1]? = some z := by
  rw [List.getElem?_append_right (show A.length ≤ n by omega)] at h
  obtain ⟨j, hj⟩ : ∃ j, n - A.length = j + 1 := ⟨n - A.length - 1, by omega⟩
  rw [hj] at h ⊢
  simpa using h
theorem own_e4 {A B : List Int32} {x z : Int32} {n : Nat} (h : (A ++ x :: B)[n]? = some z) (hn : A.length < n) (h4 : n ≤ 4000) : ∃ j, Int32.ofNat n - own_n A - (1 : Int32) = Int32.ofNat j ∧ B[j]? = some z ∧ j ≤ 4000 := by
  refine ⟨n - A.length - 1, ?_, own_e3 h hn, by omega⟩
  show Int32.ofNat n - Int32.ofNat A.length - Int32.ofNat 1 = _
  rw [own_sub (a := n) (b := A.length) (by omega) h4, own_sub (a := n - A.length) (b := 1) (by omega) (by omega)]
theorem own_e5 {A : List Int32} {n : Nat} (h : (Int32.ofNat n - own_n A) = (0 : Int32)) (g : A.length ≤ n) (h4 : n ≤ 4000) : n = A.length := by
  have e : Int32.ofNat n - own_n A = Int32.ofNat (n - A.length) := own_sub g h4
  rw [e] at h
  have a := own_ei h
  rw [own_jI (show n - A.length < 2147483648 by omega)] at a
  have z : (0 : Int32).toInt = 0 := rfl
  omega
theorem own_e6 {A : List Int32} {n : Nat} (h : ¬ (Int32.ofNat n - own_n A) = (0 : Int32)) (g : A.length ≤ n) : A.length < n := by
  rcases Nat.lt_or_eq_of_le g with q | q
  · exact q
  · exact absurd (by rw [← q]; exact Int32.sub_self _) h
theorem own_ylt {y z : Int32} (h : y < z) : y.toNatClampNeg ≤ z.toNatClampNeg := by
  have a := own_l h
  have e1 : y.toNatClampNeg = y.toInt.toNat := rfl
  have e2 : z.toNatClampNeg = z.toInt.toNat := rfl
  omega
theorem own_dlt {ds dn td : List Int32} {z : Int32} (h : ds = dn ++ z :: td) (hl : ds.length ≤ 4000) : own_n dn < own_n ds := by
  have q : ds.length = dn.length + (td.length + 1) := by rw [h]; simp
  exact own_jlt2 (by omega) (by omega)
theorem own_capw {cs : List Int32} (h : cs.length ≤ 15) : own_n2 cs < (32 : Int32) ∧ ¬ own_n2 cs = (32 : Int32) := by
  have e : (own_n2 cs).toInt = (2 * cs.length : Nat) := own_jI (by omega)
  have t : (32 : Int32).toInt = 32 := rfl
  exact ⟨own_l' (by omega), own_nei' (by omega)⟩
theorem own_capl {cs : List Int32} (h : cs.length ≤ 15) : own_n cs < (16 : Int32) ∧ ¬ own_n cs = (16 : Int32) := by
  have e : (own_n cs).toInt = (cs.length : Nat) := own_jI (by omega)
  have t : (16 : Int32).toInt = 16 := rfl
  exact ⟨own_l' (by omega), own_nei' (by omega)⟩
section OwnCpv
variable {p : Program} {l : Launch} {e : Env} {R : Room} {s : State} {m : MethodId} {args : Array Value} {below : List Frame} {meth : Method} {c : Code} {T : State} {locs : List Loc} {cells slots : Nat} {Z : State} {a0 : Array Value} {h : Heap}
/-- System.arraycopy of what one byte[] holds behind what another holds -/
theorem own_cpv (X : Stand p l e R s m args below meth c T locs cells slots) (hx : p.tables.exec = Jvm.exec) (hZ : Z.Warmed39 s.vm) {own : String} {index : Nat} (hown : s.vm.findClass own = some m.cls)
    (w1 : (Jvm.Cond.methodLink own index Jvm.Stand.acN).before a0 Z = true) (w2 : (Jvm.Cond.native Jvm.Stand.acN).before a0 Z = true) (w3 : (Jvm.Cond.static Jvm.Stand.acN).before a0 Z = true) (w4 : (Jvm.Cond.initialized "java/lang/System").before a0 Z = true) (eT : T.heap = h)
    {a b : Addr} {k k' : ClassId} {z z' nn dp : Int32} {vs vd : List Value} (A : Arv Z h a k .byte z vs (.int 0)) (B : Arv Z h b k' .byte z' vd (.int 0)) (hn : nn.toNatClampNeg = vs.length ∧ ¬ nn < (0 : Int32)) (hd : dp.toNatClampNeg = vd.length ∧ ¬ dp < (0 : Int32)) (hza : vs.length ≤ z.toNatClampNeg) (hz : vd.length + vs.length ≤ z'.toNatClampNeg)
    {n0 : Nat} (N : Fr n0 locs) (ge : n0 ≤ b) {g : JFrame} (hg : g.method = m) (hsize : g.locals.size = c.maxLocals) {rest : List Value} (hs : g.stack = .int nn :: .int dp :: .ref b :: .int 0 :: .ref a :: rest) (hdc : decode c.code g.pc = .ok (.invokestatic index, 3))
    (hf : 1 ≤ R.frames) {W : Nat} (hW : 2 * g.monitorRoom + (rest.map fun v => v.category).sum ≤ W) (hlo : W + (nativeFrameWords "java/lang/System" "arraycopy" 5 + 11) ≤ R.locals) :
    ∃ T' h' L, Stand p l e R s m args below meth c T' L cells slots ∧ T'.heap = h' ∧ Fr n0 L ∧ Keep h h' [b] ∧ Arv Z h' b k' .byte z' (vd ++ vs) (.int 0) ∧
      ∀ target, Steps p.tables e below (T'.setTop { g with pc := g.pc + 3, stack := rest }) target → Steps p.tables e below (T.setTop g) target := by
  have B' : Arv Z h b k' .byte z' (vd ++ List.replicate vs.length (.int 0)) (.int 0) := B.pad (pad_rep _ _ _)
  obtain ⟨n1, n2⟩ := hn
  obtain ⟨d1, d2⟩ := hd
  obtain ⟨T', h', L, X', e', N', K', V', st⟩ := cpA X hx hZ hown w1 w2 w3 w4 eT A B' (us := vs) (sp := 0) (dp := dp) (nn := nn) (Or.inl ⟨rfl, rfl⟩) (by decide) d2 n2
    (by show (0 : Int32).toNatClampNeg + nn.toNatClampNeg ≤ _; rw [n1]; show 0 + _ ≤ _; omega)
    (by rw [d1, n1]; exact hz)
    (by rw [n1]; exact own_us vs (.int 0))
    (by rw [d1, n1]; simp) N ge hg hsize hs hdc hf hW hlo
  refine ⟨T', h', L, X', e', N', K', ?_, st⟩
  have q : (vd ++ List.replicate vs.length (Value.int 0)).take dp.toNatClampNeg ++ vs ++ (vd ++ List.replicate vs.length (Value.int 0)).drop (dp.toNatClampNeg + nn.toNatClampNeg) = vd ++ vs := by
    rw [d1, n1, List.take_left' rfl, List.drop_eq_nil_of_le (by simp), List.append_nil]
  rw [q] at V'
  exact V'
end OwnCpv
theorem own_sev {s : State} {args : Array Value} {t : Term} {n : Int32} (h : (Jvm.Cond.eq t (.int n)).before args s = true) : t.eval args s none [] s = some (.int n) := by
  have q := Cond.before_iff.mp h
  cases e : t.eval args s none [] s with
  | none => simp [Cond.value, Term.eval, e] at q
  | some v => cases v <;> simp [Cond.value, Term.eval, e] at q; rw [q]
theorem own_len11 (us hs ps : List Int32) : ((own_n us + (1 : Int32)) + own_n hs) + (own_n ps + (1 : Int32)) = own_n (us ++ (64 : Int32) :: (hs ++ (58 : Int32) :: ps)) := by
  rw [own_n1 us 0, own_n1 ps 0, own_napp, own_napp]
  unfold own_n
  congr 1
  simp only [List.length_append, List.length_cons, List.length_nil]
  omega
theorem own_len10 (us hs : List Int32) : ((own_n us + (1 : Int32)) + own_n hs) + (0 : Int32) = own_n (us ++ (64 : Int32) :: hs) := by
  rw [Int32.add_zero, own_n1 us 0, own_napp]
  unfold own_n
  congr 1
  simp only [List.length_append, List.length_cons, List.length_nil]
  omega
theorem own_len01 (hs ps : List Int32) : ((0 : Int32) + own_n hs) + (own_n ps + (1 : Int32)) = own_n (hs ++ (58 : Int32) :: ps) := by
  rw [Int32.zero_add, own_n1 ps 0, own_napp]
  unfold own_n
  congr 1
  simp only [List.length_append, List.length_cons, List.length_nil]
theorem own_len00 (hs : List Int32) : ((0 : Int32) + own_n hs) + (0 : Int32) = own_n hs := by rw [Int32.add_zero, Int32.zero_add]

def own_Gl (Z : State) (z0 : Int32) (fm0 : Value) : Prop := (Sta Z Z.heap "java/lang/String" "COMPACT_STRINGS" "Z" (.int z0)) ∧ (¬ z0 = (0 : Int32)) ∧ (Sta Z Z.heap "jdk/internal/util/Preconditions" "SIOOBE_FORMATTER" "Ljava/util/function/BiFunction;" fm0) ∧ (fm0.isRef = true) ∧ (Sta Z Z.heap "java/lang/StringUTF16" "$assertionsDisabled" "Z" (.int (1 : Int32))) ∧ (Sta Z Z.heap "java/lang/StringUTF16" "HI_BYTE_SHIFT" "I" (.int (0 : Int32))) ∧ (Sta Z Z.heap "java/lang/StringUTF16" "LO_BYTE_SHIFT" "I" (.int (8 : Int32)))
abbrev own_EL : List (String × Nat) := [("com/example/naslov/naslov/UriJoinAuthorityPinLaw", 29)]
theorem own_hEL {Z : State} {a0 : Array Value} (hw : ∀ d ∈ tables_1, d.before a0 Z = true) : EW Z a0 own_EL := (EW.cons (ow hw 4 rfl) (by decide) EW.nil)
theorem own_pn0 : plainName "java/lang/String" = true := by decide +kernel
theorem own_d8_0 : decode jdk_42_method_152_code 0 = .ok (.getstatic 38, 3) := by decide +kernel
theorem own_d8_3 : decode jdk_42_method_152_code 3 = .ok (.ifCond .eq 10, 3) := by decide +kernel
theorem own_d8_6 : decode jdk_42_method_152_code 6 = .ok (.aload_n 0, 1) := by decide +kernel
theorem own_d8_7 : decode jdk_42_method_152_code 7 = .ok (.getfield 15, 3) := by decide +kernel
theorem own_d8_10 : decode jdk_42_method_152_code 10 = .ok (.goto 4, 3) := by decide +kernel
theorem own_d8_14 : decode jdk_42_method_152_code 14 = .ok (.ireturn, 1) := by decide +kernel
set_option maxHeartbeats 4000000 in
theorem own_ef_rmCo0 (m : MethodId) (x0 : Addr) : entryFrame m #[(.ref x0)] 1 = mkF m 0 #[.val (.ref x0)] [] := by rfl
set_option maxRecDepth 65536 in
set_option maxHeartbeats 40000000 in
theorem rmCo0 (l : Launch) (Z : State) (a0 : Array Value) (hw : ∀ d ∈ tables_1, d.before a0 Z = true) (z0 : Int32) (fm0 : Value) (gl : own_Gl Z z0 fm0) (ws : List Jvm.Cond) (a : Addr) (h0 : Heap) (n0 : Nat) (Z0 : n0 ≤ h0.size) (Xo : Old Z n0 h0) (Fc : Fld Z h0 a "java/lang/String" "coder" "B" (.int (0 : Int32))) :
    own_MetN l Z (⟨"java/lang/String", "coder", "()B"⟩ : MethodName) jdk_42_method_152_code 1 (some .byte) ws ({ frames := 0, cells := 0, slots := 0, locals := 0 } : Room) #[(.ref a)] h0 (fun v h L => Fr n0 L ∧ h = h0 ∧ (((v = some (.int (0 : Int32)))))) := by
  refine own_metN (plainFor_of_name own_pn0) ?_
  intro p e s m below meth c s₁ G hx hby hml hZ hown hnm hret X0 e0 go fin
  obtain ⟨O2, P5, O4, R4, O_ad, O_hi, O_lo⟩ := id gl
  have N0 := Fr.nil n0
  refine go _ _ (fun _ k => castTop (own_ef_rmCo0 m a) k) ?_
  obtain ⟨T101, X101, e101, st101⟩ := getS2 X0 hx hZ (host := "") hown (Or.inl (ow hw 57 rfl)) Via.refl e0 (O2.ext Xo.2) (g := (mkF m 0 #[r' a] [])) rfl (hb hby own_d8_0)
  refine go _ _ (st101) ?_
  show G (T101.setTop (mkF m 3 #[r' a] [(.int z0)]))
  refine go _ _ (fun _ k => XS.ifNo X101.here hx rfl (hb hby own_d8_3) rfl ((if0 _ _).trans (feq P5).1) k) ?_
  show G (T101.setTop (mkF m 6 #[r' a] []))
  refine go _ _ (fun _ k => XS.aloadN X101.here hx rfl (hb hby own_d8_6) rfl rfl k) ?_
  obtain ⟨T102, X102, e102, st102⟩ := getF X101 hx hZ hown (host := "") (Or.inl (ow hw 58 rfl)) Via.refl e101 Fc (g := (mkF m 7 #[r' a] [(.ref a)])) rfl rfl (hb hby own_d8_7)
  refine go _ _ (st102) ?_
  show G (T102.setTop (mkF m 10 #[r' a] [(.int 0)]))
  refine go _ _ (fun _ k => XS.goto X102.here hx rfl (pc0 := 10) (pc' := 14) rfl (hb hby own_d8_10) (by decide) (by decide) k) ?_
  show G (T102.setTop (mkF m 14 #[r' a] [(.int 0)]))
  refine fin T102 _ _ _ (some (.int (0 : Int32))) X102 (fun q => nomatch q) (by decide) (by decide) (by rw [e102]; exact ⟨N0, rfl, rfl⟩) _ (own_retN X102 hx (z := (0 : Int32)) (t := .byte) hret (by simp) (hb hby own_d8_14))
theorem own_d29_0 : decode jdk_42_method_154_code 0 = .ok (.getstatic 38, 3) := by decide +kernel
theorem own_d29_3 : decode jdk_42_method_154_code 3 = .ok (.ifCond .eq 14, 3) := by decide +kernel
theorem own_d29_6 : decode jdk_42_method_154_code 6 = .ok (.aload_n 0, 1) := by decide +kernel
theorem own_d29_7 : decode jdk_42_method_154_code 7 = .ok (.getfield 15, 3) := by decide +kernel
theorem own_d29_10 : decode jdk_42_method_154_code 10 = .ok (.ifCond .ne 7, 3) := by decide +kernel
theorem own_d29_13 : decode jdk_42_method_154_code 13 = .ok (.iconst 1, 1) := by decide +kernel
theorem own_d29_14 : decode jdk_42_method_154_code 14 = .ok (.goto 4, 3) := by decide +kernel
theorem own_d29_18 : decode jdk_42_method_154_code 18 = .ok (.ireturn, 1) := by decide +kernel
set_option maxHeartbeats 4000000 in
theorem own_ef_rmIl0 (m : MethodId) (x0 : Addr) : entryFrame m #[(.ref x0)] 1 = mkF m 0 #[.val (.ref x0)] [] := by rfl
set_option maxRecDepth 65536 in
set_option maxHeartbeats 40000000 in
theorem rmIl0 (l : Launch) (Z : State) (a0 : Array Value) (hw : ∀ d ∈ tables_1, d.before a0 Z = true) (z0 : Int32) (fm0 : Value) (gl : own_Gl Z z0 fm0) (ws : List Jvm.Cond) (a : Addr) (h0 : Heap) (n0 : Nat) (Z0 : n0 ≤ h0.size) (Xo : Old Z n0 h0) (Fc : Fld Z h0 a "java/lang/String" "coder" "B" (.int (0 : Int32))) :
    own_MetN l Z (⟨"java/lang/String", "isLatin1", "()Z"⟩ : MethodName) jdk_42_method_154_code 1 (some .boolean) ws ({ frames := 0, cells := 0, slots := 0, locals := 0 } : Room) #[(.ref a)] h0 (fun v h L => Fr n0 L ∧ h = h0 ∧ (((v = some (.int (1 : Int32)))))) := by
  refine own_metN (plainFor_of_name own_pn0) ?_
  intro p e s m below meth c s₁ G hx hby hml hZ hown hnm hret X0 e0 go fin
  obtain ⟨O2, P5, O4, R4, O_ad, O_hi, O_lo⟩ := id gl
  have N0 := Fr.nil n0
  refine go _ _ (fun _ k => castTop (own_ef_rmIl0 m a) k) ?_
  obtain ⟨T101, X101, e101, st101⟩ := getS2 X0 hx hZ (host := "") hown (Or.inl (ow hw 57 rfl)) Via.refl e0 (O2.ext Xo.2) (g := (mkF m 0 #[r' a] [])) rfl (hb hby own_d29_0)
  refine go _ _ (st101) ?_
  show G (T101.setTop (mkF m 3 #[r' a] [(.int z0)]))
  refine go _ _ (fun _ k => XS.ifNo X101.here hx rfl (hb hby own_d29_3) rfl ((if0 _ _).trans (feq P5).1) k) ?_
  show G (T101.setTop (mkF m 6 #[r' a] []))
  refine go _ _ (fun _ k => XS.aloadN X101.here hx rfl (hb hby own_d29_6) rfl rfl k) ?_
  obtain ⟨T102, X102, e102, st102⟩ := getF X101 hx hZ hown (host := "") (Or.inl (ow hw 58 rfl)) Via.refl e101 Fc (g := (mkF m 7 #[r' a] [(.ref a)])) rfl rfl (hb hby own_d29_7)
  refine go _ _ (st102) ?_
  show G (T102.setTop (mkF m 10 #[r' a] [(.int 0)]))
  refine go _ _ (fun _ k => XS.ifNo X102.here hx rfl (hb hby own_d29_10) rfl (by decide) k) ?_
  show G (T102.setTop (mkF m 13 #[r' a] []))
  refine go _ _ (fun _ k => XS.iconst X102.here hx rfl (hb hby own_d29_13) k) ?_
  show G (T102.setTop (mkF m 14 #[r' a] [(.int 1)]))
  refine go _ _ (fun _ k => XS.goto X102.here hx rfl (pc0 := 14) (pc' := 18) rfl (hb hby own_d29_14) (by decide) (by decide) k) ?_
  show G (T102.setTop (mkF m 18 #[r' a] [(.int 1)]))
  refine fin T102 _ _ _ (some (.int (1 : Int32))) X102 (fun q => nomatch q) (by decide) (by decide) (by rw [e102]; exact ⟨N0, rfl, rfl⟩) _ (own_retN X102 hx (z := (1 : Int32)) (t := .boolean) hret (by simp) (hb hby own_d29_18))
theorem own_pn1 : plainName "java/lang/AbstractStringBuilder" = true := by decide +kernel
theorem own_d15_0 : decode jdk_68_method_68_code 0 = .ok (.getstatic 18, 3) := by decide +kernel
theorem own_d15_3 : decode jdk_68_method_68_code 3 = .ok (.ifCond .eq 14, 3) := by decide +kernel
theorem own_d15_6 : decode jdk_68_method_68_code 6 = .ok (.aload_n 0, 1) := by decide +kernel
theorem own_d15_7 : decode jdk_68_method_68_code 7 = .ok (.getfield 22, 3) := by decide +kernel
theorem own_d15_10 : decode jdk_68_method_68_code 10 = .ok (.ifCond .ne 7, 3) := by decide +kernel
theorem own_d15_13 : decode jdk_68_method_68_code 13 = .ok (.iconst 1, 1) := by decide +kernel
theorem own_d15_14 : decode jdk_68_method_68_code 14 = .ok (.goto 4, 3) := by decide +kernel
theorem own_d15_18 : decode jdk_68_method_68_code 18 = .ok (.ireturn, 1) := by decide +kernel
set_option maxHeartbeats 4000000 in
theorem own_ef_rmIb0 (m : MethodId) (x0 : Addr) : entryFrame m #[(.ref x0)] 1 = mkF m 0 #[.val (.ref x0)] [] := by rfl
set_option maxRecDepth 65536 in
set_option maxHeartbeats 40000000 in
theorem rmIb0 (l : Launch) (Z : State) (a0 : Array Value) (hw : ∀ d ∈ tables_1, d.before a0 Z = true) (z0 : Int32) (fm0 : Value) (gl : own_Gl Z z0 fm0) (ws : List Jvm.Cond) (a : Addr) (h0 : Heap) (n0 : Nat) (Z0 : n0 ≤ h0.size) (Xo : Old Z n0 h0) (Fc : Fld Z h0 a "java/lang/AbstractStringBuilder" "coder" "B" (.int (0 : Int32))) :
    own_MetN l Z (⟨"java/lang/AbstractStringBuilder", "isLatin1", "()Z"⟩ : MethodName) jdk_68_method_68_code 1 (some .boolean) ws ({ frames := 0, cells := 0, slots := 0, locals := 0 } : Room) #[(.ref a)] h0 (fun v h L => Fr n0 L ∧ h = h0 ∧ (((v = some (.int (1 : Int32)))))) := by
  refine own_metN (plainFor_of_name own_pn1) ?_
  intro p e s m below meth c s₁ G hx hby hml hZ hown hnm hret X0 e0 go fin
  obtain ⟨O2, P5, O4, R4, O_ad, O_hi, O_lo⟩ := id gl
  have N0 := Fr.nil n0
  refine go _ _ (fun _ k => castTop (own_ef_rmIb0 m a) k) ?_
  obtain ⟨T101, X101, e101, st101⟩ := getS2 X0 hx hZ (host := "") hown (Or.inl (ow hw 31 rfl)) Via.refl e0 (O2.ext Xo.2) (g := (mkF m 0 #[r' a] [])) rfl (hb hby own_d15_0)
  refine go _ _ (st101) ?_
  show G (T101.setTop (mkF m 3 #[r' a] [(.int z0)]))
  refine go _ _ (fun _ k => XS.ifNo X101.here hx rfl (hb hby own_d15_3) rfl ((if0 _ _).trans (feq P5).1) k) ?_
  show G (T101.setTop (mkF m 6 #[r' a] []))
  refine go _ _ (fun _ k => XS.aloadN X101.here hx rfl (hb hby own_d15_6) rfl rfl k) ?_
  obtain ⟨T102, X102, e102, st102⟩ := getF X101 hx hZ hown (host := "") (Or.inl (ow hw 34 rfl)) Via.refl e101 Fc (g := (mkF m 7 #[r' a] [(.ref a)])) rfl rfl (hb hby own_d15_7)
  refine go _ _ (st102) ?_
  show G (T102.setTop (mkF m 10 #[r' a] [(.int 0)]))
  refine go _ _ (fun _ k => XS.ifNo X102.here hx rfl (hb hby own_d15_10) rfl (by decide) k) ?_
  show G (T102.setTop (mkF m 13 #[r' a] []))
  refine go _ _ (fun _ k => XS.iconst X102.here hx rfl (hb hby own_d15_13) k) ?_
  show G (T102.setTop (mkF m 14 #[r' a] [(.int 1)]))
  refine go _ _ (fun _ k => XS.goto X102.here hx rfl (pc0 := 14) (pc' := 18) rfl (hb hby own_d15_14) (by decide) (by decide) k) ?_
  show G (T102.setTop (mkF m 18 #[r' a] [(.int 1)]))
  refine fin T102 _ _ _ (some (.int (1 : Int32))) X102 (fun q => nomatch q) (by decide) (by decide) (by rw [e102]; exact ⟨N0, rfl, rfl⟩) _ (own_retN X102 hx (z := (1 : Int32)) (t := .boolean) hret (by simp) (hb hby own_d15_18))
set_option maxHeartbeats 4000000 in
theorem own_ef_rmCo1 (m : MethodId) (x0 : Addr) : entryFrame m #[(.ref x0)] 1 = mkF m 0 #[.val (.ref x0)] [] := by rfl
set_option maxRecDepth 65536 in
set_option maxHeartbeats 40000000 in
theorem rmCo1 (l : Launch) (Z : State) (a0 : Array Value) (hw : ∀ d ∈ tables_1, d.before a0 Z = true) (z0 : Int32) (fm0 : Value) (gl : own_Gl Z z0 fm0) (ws : List Jvm.Cond) (a : Addr) (h0 : Heap) (n0 : Nat) (Z0 : n0 ≤ h0.size) (Xo : Old Z n0 h0) (Fc : Fld Z h0 a "java/lang/String" "coder" "B" (.int (1 : Int32))) :
    own_MetN l Z (⟨"java/lang/String", "coder", "()B"⟩ : MethodName) jdk_42_method_152_code 1 (some .byte) ws ({ frames := 0, cells := 0, slots := 0, locals := 0 } : Room) #[(.ref a)] h0 (fun v h L => Fr n0 L ∧ h = h0 ∧ (((v = some (.int (1 : Int32)))))) := by
  refine own_metN (plainFor_of_name own_pn0) ?_
  intro p e s m below meth c s₁ G hx hby hml hZ hown hnm hret X0 e0 go fin
  obtain ⟨O2, P5, O4, R4, O_ad, O_hi, O_lo⟩ := id gl
  have N0 := Fr.nil n0
  refine go _ _ (fun _ k => castTop (own_ef_rmCo1 m a) k) ?_
  obtain ⟨T101, X101, e101, st101⟩ := getS2 X0 hx hZ (host := "") hown (Or.inl (ow hw 57 rfl)) Via.refl e0 (O2.ext Xo.2) (g := (mkF m 0 #[r' a] [])) rfl (hb hby own_d8_0)
  refine go _ _ (st101) ?_
  show G (T101.setTop (mkF m 3 #[r' a] [(.int z0)]))
  refine go _ _ (fun _ k => XS.ifNo X101.here hx rfl (hb hby own_d8_3) rfl ((if0 _ _).trans (feq P5).1) k) ?_
  show G (T101.setTop (mkF m 6 #[r' a] []))
  refine go _ _ (fun _ k => XS.aloadN X101.here hx rfl (hb hby own_d8_6) rfl rfl k) ?_
  obtain ⟨T102, X102, e102, st102⟩ := getF X101 hx hZ hown (host := "") (Or.inl (ow hw 58 rfl)) Via.refl e101 Fc (g := (mkF m 7 #[r' a] [(.ref a)])) rfl rfl (hb hby own_d8_7)
  refine go _ _ (st102) ?_
  show G (T102.setTop (mkF m 10 #[r' a] [(.int 1)]))
  refine go _ _ (fun _ k => XS.goto X102.here hx rfl (pc0 := 10) (pc' := 14) rfl (hb hby own_d8_10) (by decide) (by decide) k) ?_
  show G (T102.setTop (mkF m 14 #[r' a] [(.int 1)]))
  refine fin T102 _ _ _ (some (.int (1 : Int32))) X102 (fun q => nomatch q) (by decide) (by decide) (by rw [e102]; exact ⟨N0, rfl, rfl⟩) _ (own_retN X102 hx (z := (1 : Int32)) (t := .byte) hret (by simp) (hb hby own_d8_14))
theorem own_d29_17 : decode jdk_42_method_154_code 17 = .ok (.iconst 0, 1) := by decide +kernel
set_option maxHeartbeats 4000000 in
theorem own_ef_rmIl1 (m : MethodId) (x0 : Addr) : entryFrame m #[(.ref x0)] 1 = mkF m 0 #[.val (.ref x0)] [] := by rfl
set_option maxRecDepth 65536 in
set_option maxHeartbeats 40000000 in
theorem rmIl1 (l : Launch) (Z : State) (a0 : Array Value) (hw : ∀ d ∈ tables_1, d.before a0 Z = true) (z0 : Int32) (fm0 : Value) (gl : own_Gl Z z0 fm0) (ws : List Jvm.Cond) (a : Addr) (h0 : Heap) (n0 : Nat) (Z0 : n0 ≤ h0.size) (Xo : Old Z n0 h0) (Fc : Fld Z h0 a "java/lang/String" "coder" "B" (.int (1 : Int32))) :
    own_MetN l Z (⟨"java/lang/String", "isLatin1", "()Z"⟩ : MethodName) jdk_42_method_154_code 1 (some .boolean) ws ({ frames := 0, cells := 0, slots := 0, locals := 0 } : Room) #[(.ref a)] h0 (fun v h L => Fr n0 L ∧ h = h0 ∧ (((v = some (.int (0 : Int32)))))) := by
  refine own_metN (plainFor_of_name own_pn0) ?_
  intro p e s m below meth c s₁ G hx hby hml hZ hown hnm hret X0 e0 go fin
  obtain ⟨O2, P5, O4, R4, O_ad, O_hi, O_lo⟩ := id gl
  have N0 := Fr.nil n0
  refine go _ _ (fun _ k => castTop (own_ef_rmIl1 m a) k) ?_
  obtain ⟨T101, X101, e101, st101⟩ := getS2 X0 hx hZ (host := "") hown (Or.inl (ow hw 57 rfl)) Via.refl e0 (O2.ext Xo.2) (g := (mkF m 0 #[r' a] [])) rfl (hb hby own_d29_0)
  refine go _ _ (st101) ?_
  show G (T101.setTop (mkF m 3 #[r' a] [(.int z0)]))
  refine go _ _ (fun _ k => XS.ifNo X101.here hx rfl (hb hby own_d29_3) rfl ((if0 _ _).trans (feq P5).1) k) ?_
  show G (T101.setTop (mkF m 6 #[r' a] []))
  refine go _ _ (fun _ k => XS.aloadN X101.here hx rfl (hb hby own_d29_6) rfl rfl k) ?_
  obtain ⟨T102, X102, e102, st102⟩ := getF X101 hx hZ hown (host := "") (Or.inl (ow hw 58 rfl)) Via.refl e101 Fc (g := (mkF m 7 #[r' a] [(.ref a)])) rfl rfl (hb hby own_d29_7)
  refine go _ _ (st102) ?_
  show G (T102.setTop (mkF m 10 #[r' a] [(.int 1)]))
  refine go _ _ (fun _ k => XS.ifYes X102.here hx rfl (pc0 := 10) (pc' := 17) rfl (hb hby own_d29_10) rfl (by decide) (by decide) (by decide) k) ?_
  show G (T102.setTop (mkF m 17 #[r' a] []))
  refine go _ _ (fun _ k => XS.iconst X102.here hx rfl (hb hby own_d29_17) k) ?_
  show G (T102.setTop (mkF m 18 #[r' a] [(.int 0)]))
  refine fin T102 _ _ _ (some (.int (0 : Int32))) X102 (fun q => nomatch q) (by decide) (by decide) (by rw [e102]; exact ⟨N0, rfl, rfl⟩) _ (own_retN X102 hx (z := (0 : Int32)) (t := .boolean) hret (by simp) (hb hby own_d29_18))
theorem own_d15_17 : decode jdk_68_method_68_code 17 = .ok (.iconst 0, 1) := by decide +kernel
set_option maxHeartbeats 4000000 in
theorem own_ef_rmIb1 (m : MethodId) (x0 : Addr) : entryFrame m #[(.ref x0)] 1 = mkF m 0 #[.val (.ref x0)] [] := by rfl
set_option maxRecDepth 65536 in
set_option maxHeartbeats 40000000 in
theorem rmIb1 (l : Launch) (Z : State) (a0 : Array Value) (hw : ∀ d ∈ tables_1, d.before a0 Z = true) (z0 : Int32) (fm0 : Value) (gl : own_Gl Z z0 fm0) (ws : List Jvm.Cond) (a : Addr) (h0 : Heap) (n0 : Nat) (Z0 : n0 ≤ h0.size) (Xo : Old Z n0 h0) (Fc : Fld Z h0 a "java/lang/AbstractStringBuilder" "coder" "B" (.int (1 : Int32))) :
    own_MetN l Z (⟨"java/lang/AbstractStringBuilder", "isLatin1", "()Z"⟩ : MethodName) jdk_68_method_68_code 1 (some .boolean) ws ({ frames := 0, cells := 0, slots := 0, locals := 0 } : Room) #[(.ref a)] h0 (fun v h L => Fr n0 L ∧ h = h0 ∧ (((v = some (.int (0 : Int32)))))) := by
  refine own_metN (plainFor_of_name own_pn1) ?_
  intro p e s m below meth c s₁ G hx hby hml hZ hown hnm hret X0 e0 go fin
  obtain ⟨O2, P5, O4, R4, O_ad, O_hi, O_lo⟩ := id gl
  have N0 := Fr.nil n0
  refine go _ _ (fun _ k => castTop (own_ef_rmIb1 m a) k) ?_
  obtain ⟨T101, X101, e101, st101⟩ := getS2 X0 hx hZ (host := "") hown (Or.inl (ow hw 31 rfl)) Via.refl e0 (O2.ext Xo.2) (g := (mkF m 0 #[r' a] [])) rfl (hb hby own_d15_0)
  refine go _ _ (st101) ?_
  show G (T101.setTop (mkF m 3 #[r' a] [(.int z0)]))
  refine go _ _ (fun _ k => XS.ifNo X101.here hx rfl (hb hby own_d15_3) rfl ((if0 _ _).trans (feq P5).1) k) ?_
  show G (T101.setTop (mkF m 6 #[r' a] []))
  refine go _ _ (fun _ k => XS.aloadN X101.here hx rfl (hb hby own_d15_6) rfl rfl k) ?_
  obtain ⟨T102, X102, e102, st102⟩ := getF X101 hx hZ hown (host := "") (Or.inl (ow hw 34 rfl)) Via.refl e101 Fc (g := (mkF m 7 #[r' a] [(.ref a)])) rfl rfl (hb hby own_d15_7)
  refine go _ _ (st102) ?_
  show G (T102.setTop (mkF m 10 #[r' a] [(.int 1)]))
  refine go _ _ (fun _ k => XS.ifYes X102.here hx rfl (pc0 := 10) (pc' := 17) rfl (hb hby own_d15_10) rfl (by decide) (by decide) (by decide) k) ?_
  show G (T102.setTop (mkF m 17 #[r' a] []))
  refine go _ _ (fun _ k => XS.iconst X102.here hx rfl (hb hby own_d15_17) k) ?_
  show G (T102.setTop (mkF m 18 #[r' a] [(.int 0)]))
  refine fin T102 _ _ _ (some (.int (0 : Int32))) X102 (fun q => nomatch q) (by decide) (by decide) (by rw [e102]; exact ⟨N0, rfl, rfl⟩) _ (own_retN X102 hx (z := (0 : Int32)) (t := .boolean) hret (by simp) (hb hby own_d15_18))
theorem own_pn2 : plainName "jdk/internal/util/Preconditions" = true := by decide +kernel
theorem own_d32_0 : decode jdk_41_method_11_code 0 = .ok (.iload_n 0, 1) := by decide +kernel
theorem own_d32_1 : decode jdk_41_method_11_code 1 = .ok (.ifCond .lt 8, 3) := by decide +kernel
theorem own_d32_4 : decode jdk_41_method_11_code 4 = .ok (.iload_n 0, 1) := by decide +kernel
theorem own_d32_5 : decode jdk_41_method_11_code 5 = .ok (.iload_n 1, 1) := by decide +kernel
theorem own_d32_6 : decode jdk_41_method_11_code 6 = .ok (.if_icmp .lt 10, 3) := by decide +kernel
theorem own_d32_16 : decode jdk_41_method_11_code 16 = .ok (.iload_n 0, 1) := by decide +kernel
theorem own_d32_17 : decode jdk_41_method_11_code 17 = .ok (.ireturn, 1) := by decide +kernel
set_option maxHeartbeats 4000000 in
theorem own_ef_rm32 (m : MethodId) (x0 : Int32) (x1 : Int32) (x2 : Value) (q2 : x2.isRef = true) : entryFrame m #[(.int x0), (.int x1), x2] 3 = mkF m 0 #[.val (.int x0), .val (.int x1), .val x2] [] := by simp [entryFrame, mkF, argsToLocals, own_catR, own_catI, own_catN, own_catJ, own_cat q2]
set_option maxRecDepth 65536 in
set_option maxHeartbeats 40000000 in
theorem rm32 (l : Launch) (Z : State) (a0 : Array Value) (hw : ∀ d ∈ tables_1, d.before a0 Z = true) (z0 : Int32) (fm0 : Value) (gl : own_Gl Z z0 fm0) (ws : List Jvm.Cond) (i : Int32) (n : Int32) (v1 : Value) (h0 : Heap) (n0 : Nat) (Z0 : n0 ≤ h0.size) (r1 : v1.isRef = true) (hi0 : ¬ i < (0 : Int32)) (hin : i < n) :
    own_MetN l Z (⟨"jdk/internal/util/Preconditions", "checkIndex", "(IILjava/util/function/BiFunction;)I"⟩ : MethodName) jdk_41_method_11_code 3 (some .int) ws ({ frames := 0, cells := 0, slots := 0, locals := 0 } : Room) #[(.int i), (.int n), v1] h0 (fun v h L => Fr n0 L ∧ h = h0 ∧ (((v = some (.int i))))) := by
  refine own_metN (plainFor_of_name own_pn2) ?_
  intro p e s m below meth c s₁ G hx hby hml hZ hown hnm hret X0 e0 go fin
  obtain ⟨O2, P5, O4, R4, O_ad, O_hi, O_lo⟩ := id gl
  have N0 := Fr.nil n0
  refine go _ _ (fun _ k => castTop (own_ef_rm32 m i n v1 r1) k) ?_
  show G (s₁.setTop (mkF m 0 #[i' i, i' n, .val v1] []))
  refine go _ _ (fun _ k => XS.iloadN X0.here hx rfl (hb hby own_d32_0) rfl k) ?_
  show G (s₁.setTop (mkF m 1 #[i' i, i' n, .val v1] [(.int i)]))
  refine go _ _ (fun _ k => XS.ifNo X0.here hx rfl (hb hby own_d32_1) rfl ((if0 _ _).trans (flt hi0).1) k) ?_
  show G (s₁.setTop (mkF m 4 #[i' i, i' n, .val v1] []))
  refine go _ _ (fun _ k => XS.iloadN X0.here hx rfl (hb hby own_d32_4) rfl (XS.iloadN X0.here hx rfl (hb hby own_d32_5) rfl k)) ?_
  show G (s₁.setTop (mkF m 6 #[i' i, i' n, .val v1] [(.int n), (.int i)]))
  refine go _ _ (fun _ k => XS.icmpYes X0.here hx rfl (pc0 := 6) (pc' := 16) rfl (hb hby own_d32_6) rfl (tlt hin).1 (by decide) (by decide) k) ?_
  show G (s₁.setTop (mkF m 16 #[i' i, i' n, .val v1] []))
  refine go _ _ (fun _ k => XS.iloadN X0.here hx rfl (hb hby own_d32_16) rfl k) ?_
  show G (s₁.setTop (mkF m 17 #[i' i, i' n, .val v1] [(.int i)]))
  refine fin s₁ _ _ _ (some (.int i)) X0 (fun q => nomatch q) (by decide) (by decide) (by rw [e0]; exact ⟨N0, rfl, rfl⟩) _ (own_retI X0 hx hret (hb hby own_d32_17))
theorem own_d31_0 : decode jdk_42_method_155_code 0 = .ok (.iload_n 0, 1) := by decide +kernel
theorem own_d31_1 : decode jdk_42_method_155_code 1 = .ok (.iload_n 1, 1) := by decide +kernel
theorem own_d31_2 : decode jdk_42_method_155_code 2 = .ok (.getstatic 1053, 3) := by decide +kernel
theorem own_pd0 : parseMethodDescriptor "(IILjava/util/function/BiFunction;)I" = some ⟨[.int, .int, (.object "java/util/function/BiFunction")], some .int⟩ := by decide +kernel
theorem own_d31_5 : decode jdk_42_method_155_code 5 = .ok (.invokestatic 1059, 3) := by decide +kernel
theorem own_d31_8 : decode jdk_42_method_155_code 8 = .ok (.pop, 1) := by decide +kernel
theorem own_d31_9 : decode jdk_42_method_155_code 9 = .ok (.return_, 1) := by decide +kernel
set_option maxHeartbeats 4000000 in
theorem own_ef_rm31 (m : MethodId) (x0 : Int32) (x1 : Int32) : entryFrame m #[(.int x0), (.int x1)] 2 = mkF m 0 #[.val (.int x0), .val (.int x1)] [] := by rfl
set_option maxRecDepth 65536 in
set_option maxHeartbeats 40000000 in
theorem rm31 (l : Launch) (Z : State) (a0 : Array Value) (hw : ∀ d ∈ tables_1, d.before a0 Z = true) (z0 : Int32) (fm0 : Value) (gl : own_Gl Z z0 fm0) (ws : List Jvm.Cond) (i : Int32) (n : Int32) (h0 : Heap) (n0 : Nat) (Z0 : n0 ≤ h0.size) (Xo : Old Z n0 h0) (hi0 : ¬ i < (0 : Int32)) (hin : i < n) :
    own_MetN l Z (⟨"java/lang/String", "checkIndex", "(II)V"⟩ : MethodName) jdk_42_method_155_code 2 none ws ({ frames := 1, cells := 0, slots := 0, locals := 14 } : Room) #[(.int i), (.int n)] h0 (fun v h L => Fr n0 L ∧ h = h0 ∧ (((v = none)))) := by
  refine own_metN (plainFor_of_name own_pn0) ?_
  intro p e s m below meth c s₁ G hx hby hml hZ hown hnm hret X0 e0 go fin
  obtain ⟨O2, P5, O4, R4, O_ad, O_hi, O_lo⟩ := id gl
  have N0 := Fr.nil n0
  refine go _ _ (fun _ k => castTop (own_ef_rm31 m i n) k) ?_
  show G (s₁.setTop (mkF m 0 #[i' i, i' n] []))
  refine go _ _ (fun _ k => XS.iloadN X0.here hx rfl (hb hby own_d31_0) rfl (XS.iloadN X0.here hx rfl (hb hby own_d31_1) rfl k)) ?_
  obtain ⟨T101, X101, e101, st101⟩ := getS2 X0 hx hZ (host := "") hown (Or.inl (ow hw 167 rfl)) Via.refl e0 (O4.ext Xo.2) (g := (mkF m 2 #[i' i, i' n] [(.int n), (.int i)])) rfl (hb hby own_d31_2)
  refine go _ _ (st101) ?_
  obtain ⟨rv102, T102, L102, X102, q102, st102⟩ := own_st X101 hx hZ (y := (⟨"jdk/internal/util/Preconditions", "checkIndex", "(IILjava/util/function/BiFunction;)I"⟩ : MethodName)) hown (ow hw 169 rfl) (ow hw 170 rfl) (ow hw 168 rfl) (ow hw 171 rfl) (by decide) (own_bkN (W := 0) (rm32 l Z a0 hw z0 fm0 gl [] i n fm0 h0 n0 Z0 R4 hi0 hin) hZ (ow hw 171 rfl) (ow hw 168 rfl) (by decide) (by decide)) e101 (g := (mkF m 5 #[i' i, i' n] [fm0, (.int n), (.int i)])) rfl (by rw [hml]; rfl) (argsL := [(.int i), (.int n), fm0]) (rest := []) rfl (lenOf own_pd0 rfl) rfl (by show 2 * 0 + _ ≤ _; exact Nat.le_of_eq rfl) (hb hby own_d31_5) (by decide) (by decide)
  obtain ⟨Nq102, e102, rfl⟩ := q102
  have N102 := Fr.app N0 Nq102
  refine go _ _ (st102) ?_
  show G (T102.setTop (mkF m 8 #[i' i, i' n] [(.int i)]))
  refine go _ _ (fun _ k => XS.pop X102.here hx rfl (hb hby own_d31_8) rfl rfl k) ?_
  show G (T102.setTop (mkF m 9 #[i' i, i' n] []))
  refine fin T102 _ _ _ none X102 (fun _ => rfl) (by decide) (by decide) (by rw [e102]; exact ⟨N102, rfl, rfl⟩) _ (own_retV X102 hx hret (hb hby own_d31_9))
theorem own_pn3 : plainName "java/lang/StringUTF16" = true := by decide +kernel
theorem own_d51_0 : decode jdk_52_method_6_code 0 = .ok (.aload_n 0, 1) := by decide +kernel
theorem own_d51_1 : decode jdk_52_method_6_code 1 = .ok (.arraylength, 1) := by decide +kernel
theorem own_d51_2 : decode jdk_52_method_6_code 2 = .ok (.iconst 1, 1) := by decide +kernel
theorem own_d51_3 : decode jdk_52_method_6_code 3 = .ok (.ishr, 1) := by decide +kernel
theorem own_d51_4 : decode jdk_52_method_6_code 4 = .ok (.ireturn, 1) := by decide +kernel
set_option maxHeartbeats 4000000 in
theorem own_ef_rmUlA (m : MethodId) (x0 : Addr) : entryFrame m #[(.ref x0)] 1 = mkF m 0 #[.val (.ref x0)] [] := by rfl
set_option maxRecDepth 65536 in
set_option maxHeartbeats 40000000 in
theorem rmUlA (l : Launch) (Z : State) (a0 : Array Value) (hw : ∀ d ∈ tables_1, d.before a0 Z = true) (z0 : Int32) (fm0 : Value) (gl : own_Gl Z z0 fm0) (ws : List Jvm.Cond) (t : Addr) (kb : ClassId) (vs : List Value) (h0 : Heap) (n0 : Nat) (Z0 : n0 ≤ h0.size) (At : Arv Z h0 t kb .byte (32 : Int32) vs (.int (0 : Int32))) :
    own_MetN l Z (⟨"java/lang/StringUTF16", "length", "([B)I"⟩ : MethodName) jdk_52_method_6_code 1 (some .int) ws ({ frames := 0, cells := 0, slots := 0, locals := 0 } : Room) #[(.ref t)] h0 (fun v h L => Fr n0 L ∧ h = h0 ∧ (((v = some (.int (16 : Int32)))))) := by
  refine own_metN (plainFor_of_name own_pn3) ?_
  intro p e s m below meth c s₁ G hx hby hml hZ hown hnm hret X0 e0 go fin
  obtain ⟨O2, P5, O4, R4, O_ad, O_hi, O_lo⟩ := id gl
  have N0 := Fr.nil n0
  refine go _ _ (fun _ k => castTop (own_ef_rmUlA m t) k) ?_
  show G (s₁.setTop (mkF m 0 #[r' t] []))
  refine go _ _ (fun _ k => XS.aloadN X0.here hx rfl (hb hby own_d51_0) rfl rfl k) ?_
  show G (s₁.setTop (mkF m 1 #[r' t] [(.ref t)]))
  obtain ⟨cl101, Ar101, q101, S101, M101, H101, U101⟩ := id At
  refine go _ _ (fun _ k => X0.arraylength hx (by rw [e0]; exact Ar101.1) (State.isArrayOf_alike hZ.alike Ar101.2.1) (g := (mkF m 1 #[r' t] [(.ref t)])) rfl rfl (hb hby own_d51_1) _ k) ?_
  show G (s₁.setTop (mkF m 2 #[r' t] [(.int cl101.slots.size.toInt32)]))
  rw [len_of S101 M101]
  show G (s₁.setTop (mkF m 2 #[r' t] [(.int 32)]))
  refine go _ _ (fun _ k => XS.iconst X0.here hx rfl (hb hby own_d51_2) (XS.ishr X0.here hx rfl (hb hby own_d51_3) rfl k)) ?_
  show G (s₁.setTop (mkF m 4 #[r' t] [(.int 16)]))
  refine fin s₁ _ _ _ (some (.int (16 : Int32))) X0 (fun q => nomatch q) (by decide) (by decide) (by rw [e0]; exact ⟨N0, rfl, rfl⟩) _ (own_retI X0 hx hret (hb hby own_d51_4))
set_option maxHeartbeats 4000000 in
theorem own_ef_rmUlB (m : MethodId) (x0 : Addr) : entryFrame m #[(.ref x0)] 1 = mkF m 0 #[.val (.ref x0)] [] := by rfl
set_option maxRecDepth 65536 in
set_option maxHeartbeats 40000000 in
theorem rmUlB (l : Launch) (Z : State) (a0 : Array Value) (hw : ∀ d ∈ tables_1, d.before a0 Z = true) (z0 : Int32) (fm0 : Value) (gl : own_Gl Z z0 fm0) (ws : List Jvm.Cond) (t : Addr) (kb : ClassId) (xs : List Int32) (h0 : Heap) (n0 : Nat) (Z0 : n0 ≤ h0.size) (At : Arv Z h0 t kb .byte (own_n2 xs) (own_u xs) (.int (0 : Int32))) (hlx : xs.length ≤ 4000) :
    own_MetN l Z (⟨"java/lang/StringUTF16", "length", "([B)I"⟩ : MethodName) jdk_52_method_6_code 1 (some .int) ws ({ frames := 0, cells := 0, slots := 0, locals := 0 } : Room) #[(.ref t)] h0 (fun v h L => Fr n0 L ∧ h = h0 ∧ (((v = some (.int (own_n xs)))))) := by
  refine own_metN (plainFor_of_name own_pn3) ?_
  intro p e s m below meth c s₁ G hx hby hml hZ hown hnm hret X0 e0 go fin
  obtain ⟨O2, P5, O4, R4, O_ad, O_hi, O_lo⟩ := id gl
  have N0 := Fr.nil n0
  refine go _ _ (fun _ k => castTop (own_ef_rmUlB m t) k) ?_
  show G (s₁.setTop (mkF m 0 #[r' t] []))
  refine go _ _ (fun _ k => XS.aloadN X0.here hx rfl (hb hby own_d51_0) rfl rfl k) ?_
  show G (s₁.setTop (mkF m 1 #[r' t] [(.ref t)]))
  obtain ⟨cl101, Ar101, q101, S101, M101, H101, U101⟩ := id At
  refine go _ _ (fun _ k => X0.arraylength hx (by rw [e0]; exact Ar101.1) (State.isArrayOf_alike hZ.alike Ar101.2.1) (g := (mkF m 1 #[r' t] [(.ref t)])) rfl rfl (hb hby own_d51_1) _ k) ?_
  show G (s₁.setTop (mkF m 2 #[r' t] [(.int cl101.slots.size.toInt32)]))
  rw [len_of S101 M101]
  show G (s₁.setTop (mkF m 2 #[r' t] [(.int (own_n2 xs))]))
  refine go _ _ (fun _ k => XS.iconst X0.here hx rfl (hb hby own_d51_2) (XS.ishr X0.here hx rfl (hb hby own_d51_3) rfl k)) ?_
  show G (s₁.setTop (mkF m 4 #[r' t] [(.int ((own_n2 xs) >>> ((1 : Int32) &&& 31)))]))
  rw [(own_shr2 hlx)]
  show G (s₁.setTop (mkF m 4 #[r' t] [(.int (own_n xs))]))
  refine fin s₁ _ _ _ (some (.int (own_n xs))) X0 (fun q => nomatch q) (by decide) (by decide) (by rw [e0]; exact ⟨N0, rfl, rfl⟩) _ (own_retI X0 hx hret (hb hby own_d51_4))
theorem own_d55_0 : decode jdk_52_method_91_code 0 = .ok (.iload_n 0, 1) := by decide +kernel
theorem own_d55_1 : decode jdk_52_method_91_code 1 = .ok (.aload_n 1, 1) := by decide +kernel
theorem own_pd1 : parseMethodDescriptor "([B)I" = some ⟨[(.array .byte)], some .int⟩ := by decide +kernel
theorem own_d55_2 : decode jdk_52_method_91_code 2 = .ok (.invokestatic 48, 3) := by decide +kernel
theorem own_pd2 : parseMethodDescriptor "(II)V" = some ⟨[.int, .int], none⟩ := by decide +kernel
theorem own_d55_5 : decode jdk_52_method_91_code 5 = .ok (.invokestatic 414, 3) := by decide +kernel
theorem own_d55_8 : decode jdk_52_method_91_code 8 = .ok (.return_, 1) := by decide +kernel
set_option maxHeartbeats 4000000 in
theorem own_ef_rmUcA (m : MethodId) (x0 : Int32) (x1 : Addr) : entryFrame m #[(.int x0), (.ref x1)] 2 = mkF m 0 #[.val (.int x0), .val (.ref x1)] [] := by rfl
set_option maxRecDepth 65536 in
set_option maxHeartbeats 40000000 in
theorem rmUcA (l : Launch) (Z : State) (a0 : Array Value) (hw : ∀ d ∈ tables_1, d.before a0 Z = true) (z0 : Int32) (fm0 : Value) (gl : own_Gl Z z0 fm0) (ws : List Jvm.Cond) (i : Int32) (t : Addr) (kb : ClassId) (vs : List Value) (h0 : Heap) (n0 : Nat) (Z0 : n0 ≤ h0.size) (Xo : Old Z n0 h0) (At : Arv Z h0 t kb .byte (32 : Int32) vs (.int (0 : Int32))) (hi0 : ¬ i < (0 : Int32)) (hin : i < (16 : Int32)) :
    own_MetN l Z (⟨"java/lang/StringUTF16", "checkIndex", "(I[B)V"⟩ : MethodName) jdk_52_method_91_code 2 none ws ({ frames := 2, cells := 0, slots := 0, locals := 27 } : Room) #[(.int i), (.ref t)] h0 (fun v h L => Fr n0 L ∧ h = h0 ∧ (((v = none)))) := by
  refine own_metN (plainFor_of_name own_pn3) ?_
  intro p e s m below meth c s₁ G hx hby hml hZ hown hnm hret X0 e0 go fin
  obtain ⟨O2, P5, O4, R4, O_ad, O_hi, O_lo⟩ := id gl
  have N0 := Fr.nil n0
  refine go _ _ (fun _ k => castTop (own_ef_rmUcA m i t) k) ?_
  show G (s₁.setTop (mkF m 0 #[i' i, r' t] []))
  refine go _ _ (fun _ k => XS.iloadN X0.here hx rfl (hb hby own_d55_0) rfl (XS.aloadN X0.here hx rfl (hb hby own_d55_1) rfl rfl k)) ?_
  obtain ⟨rv101, T101, L101, X101, q101, st101⟩ := own_st X0 hx hZ (y := (⟨"java/lang/StringUTF16", "length", "([B)I"⟩ : MethodName)) hown (ow hw 238 rfl) (ow hw 239 rfl) (ow hw 196 rfl) (ow hw 240 rfl) (by decide) (own_bkN (W := 1) (rmUlA l Z a0 hw z0 fm0 gl [] t kb vs h0 n0 Z0 At) hZ (ow hw 240 rfl) (ow hw 196 rfl) (by decide) (by decide)) e0 (g := (mkF m 2 #[i' i, r' t] [(.ref t), (.int i)])) rfl (by rw [hml]; rfl) (argsL := [(.ref t)]) (rest := [(.int i)]) rfl (lenOf own_pd1 rfl) rfl (by show 2 * 0 + _ ≤ _; exact Nat.le_of_eq rfl) (hb hby own_d55_2) (by decide) (by decide)
  obtain ⟨Nq101, e101, rfl⟩ := q101
  have N101 := Fr.app N0 Nq101
  refine go _ _ (st101) ?_
  obtain ⟨rv102, T102, L102, X102, q102, st102⟩ := own_st X101 hx hZ (y := (⟨"java/lang/String", "checkIndex", "(II)V"⟩ : MethodName)) hown (ow hw 253 rfl) (ow hw 165 rfl) (ow hw 5 rfl) (ow hw 166 rfl) (by decide) (own_bkN (W := 0) (rm31 l Z a0 hw z0 fm0 gl [] i (16 : Int32) h0 n0 Z0 Xo hi0 hin) hZ (ow hw 166 rfl) (ow hw 5 rfl) (by decide) (by decide)) e101 (g := (mkF m 5 #[i' i, r' t] [(.int 16), (.int i)])) rfl (by rw [hml]; rfl) (argsL := [(.int i), (.int (16 : Int32))]) (rest := []) rfl (lenOf own_pd2 rfl) rfl (by show 2 * 0 + _ ≤ _; exact Nat.le_of_eq rfl) (hb hby own_d55_5) (by decide) (by decide)
  obtain ⟨Nq102, e102, rfl⟩ := q102
  have N102 := Fr.app N101 Nq102
  refine go _ _ (st102) ?_
  show G (T102.setTop (mkF m 8 #[i' i, r' t] []))
  refine fin T102 _ _ _ none X102 (fun _ => rfl) (by decide) (by decide) (by rw [e102]; exact ⟨N102, rfl, rfl⟩) _ (own_retV X102 hx hret (hb hby own_d55_8))
set_option maxHeartbeats 4000000 in
theorem own_ef_rmUcB (m : MethodId) (x0 : Int32) (x1 : Addr) : entryFrame m #[(.int x0), (.ref x1)] 2 = mkF m 0 #[.val (.int x0), .val (.ref x1)] [] := by rfl
set_option maxRecDepth 65536 in
set_option maxHeartbeats 40000000 in
theorem rmUcB (l : Launch) (Z : State) (a0 : Array Value) (hw : ∀ d ∈ tables_1, d.before a0 Z = true) (z0 : Int32) (fm0 : Value) (gl : own_Gl Z z0 fm0) (ws : List Jvm.Cond) (i : Int32) (t : Addr) (kb : ClassId) (xs : List Int32) (h0 : Heap) (n0 : Nat) (Z0 : n0 ≤ h0.size) (Xo : Old Z n0 h0) (At : Arv Z h0 t kb .byte (own_n2 xs) (own_u xs) (.int (0 : Int32))) (hlx : xs.length ≤ 4000) (hi0 : ¬ i < (0 : Int32)) (hin : i < (own_n xs)) :
    own_MetN l Z (⟨"java/lang/StringUTF16", "checkIndex", "(I[B)V"⟩ : MethodName) jdk_52_method_91_code 2 none ws ({ frames := 2, cells := 0, slots := 0, locals := 27 } : Room) #[(.int i), (.ref t)] h0 (fun v h L => Fr n0 L ∧ h = h0 ∧ (((v = none)))) := by
  refine own_metN (plainFor_of_name own_pn3) ?_
  intro p e s m below meth c s₁ G hx hby hml hZ hown hnm hret X0 e0 go fin
  obtain ⟨O2, P5, O4, R4, O_ad, O_hi, O_lo⟩ := id gl
  have N0 := Fr.nil n0
  refine go _ _ (fun _ k => castTop (own_ef_rmUcB m i t) k) ?_
  show G (s₁.setTop (mkF m 0 #[i' i, r' t] []))
  refine go _ _ (fun _ k => XS.iloadN X0.here hx rfl (hb hby own_d55_0) rfl (XS.aloadN X0.here hx rfl (hb hby own_d55_1) rfl rfl k)) ?_
  obtain ⟨rv101, T101, L101, X101, q101, st101⟩ := own_st X0 hx hZ (y := (⟨"java/lang/StringUTF16", "length", "([B)I"⟩ : MethodName)) hown (ow hw 238 rfl) (ow hw 239 rfl) (ow hw 196 rfl) (ow hw 240 rfl) (by decide) (own_bkN (W := 1) (rmUlB l Z a0 hw z0 fm0 gl [] t kb xs h0 n0 Z0 At hlx) hZ (ow hw 240 rfl) (ow hw 196 rfl) (by decide) (by decide)) e0 (g := (mkF m 2 #[i' i, r' t] [(.ref t), (.int i)])) rfl (by rw [hml]; rfl) (argsL := [(.ref t)]) (rest := [(.int i)]) rfl (lenOf own_pd1 rfl) rfl (by show 2 * 0 + _ ≤ _; exact Nat.le_of_eq rfl) (hb hby own_d55_2) (by decide) (by decide)
  obtain ⟨Nq101, e101, rfl⟩ := q101
  have N101 := Fr.app N0 Nq101
  refine go _ _ (st101) ?_
  obtain ⟨rv102, T102, L102, X102, q102, st102⟩ := own_st X101 hx hZ (y := (⟨"java/lang/String", "checkIndex", "(II)V"⟩ : MethodName)) hown (ow hw 253 rfl) (ow hw 165 rfl) (ow hw 5 rfl) (ow hw 166 rfl) (by decide) (own_bkN (W := 0) (rm31 l Z a0 hw z0 fm0 gl [] i (own_n xs) h0 n0 Z0 Xo hi0 hin) hZ (ow hw 166 rfl) (ow hw 5 rfl) (by decide) (by decide)) e101 (g := (mkF m 5 #[i' i, r' t] [(.int (own_n xs)), (.int i)])) rfl (by rw [hml]; rfl) (argsL := [(.int i), (.int (own_n xs))]) (rest := []) rfl (lenOf own_pd2 rfl) rfl (by show 2 * 0 + _ ≤ _; exact Nat.le_of_eq rfl) (hb hby own_d55_5) (by decide) (by decide)
  obtain ⟨Nq102, e102, rfl⟩ := q102
  have N102 := Fr.app N101 Nq102
  refine go _ _ (st102) ?_
  show G (T102.setTop (mkF m 8 #[i' i, r' t] []))
  refine fin T102 _ _ _ none X102 (fun _ => rfl) (by decide) (by decide) (by rw [e102]; exact ⟨N102, rfl, rfl⟩) _ (own_retV X102 hx hret (hb hby own_d55_8))
theorem own_d53_0 : decode jdk_41_method_13_code 0 = .ok (.iload_n 2, 1) := by decide +kernel
theorem own_d53_1 : decode jdk_41_method_13_code 1 = .ok (.iload_n 0, 1) := by decide +kernel
theorem own_d53_2 : decode jdk_41_method_13_code 2 = .ok (.ior, 1) := by decide +kernel
theorem own_d53_3 : decode jdk_41_method_13_code 3 = .ok (.iload_n 1, 1) := by decide +kernel
theorem own_d53_4 : decode jdk_41_method_13_code 4 = .ok (.ior, 1) := by decide +kernel
theorem own_d53_5 : decode jdk_41_method_13_code 5 = .ok (.ifCond .lt 10, 3) := by decide +kernel
theorem own_d53_8 : decode jdk_41_method_13_code 8 = .ok (.iload_n 1, 1) := by decide +kernel
theorem own_d53_9 : decode jdk_41_method_13_code 9 = .ok (.iload_n 2, 1) := by decide +kernel
theorem own_d53_10 : decode jdk_41_method_13_code 10 = .ok (.iload_n 0, 1) := by decide +kernel
theorem own_d53_11 : decode jdk_41_method_13_code 11 = .ok (.isub, 1) := by decide +kernel
theorem own_d53_12 : decode jdk_41_method_13_code 12 = .ok (.if_icmp .le 11, 3) := by decide +kernel
theorem own_d53_23 : decode jdk_41_method_13_code 23 = .ok (.iload_n 0, 1) := by decide +kernel
theorem own_d53_24 : decode jdk_41_method_13_code 24 = .ok (.ireturn, 1) := by decide +kernel
set_option maxHeartbeats 4000000 in
theorem own_ef_rm53 (m : MethodId) (x0 : Int32) (x1 : Int32) (x2 : Int32) (x3 : Value) (q3 : x3.isRef = true) : entryFrame m #[(.int x0), (.int x1), (.int x2), x3] 4 = mkF m 0 #[.val (.int x0), .val (.int x1), .val (.int x2), .val x3] [] := by simp [entryFrame, mkF, argsToLocals, own_catR, own_catI, own_catN, own_catJ, own_cat q3]
set_option maxRecDepth 65536 in
set_option maxHeartbeats 40000000 in
theorem rm53 (l : Launch) (Z : State) (a0 : Array Value) (hw : ∀ d ∈ tables_1, d.before a0 Z = true) (z0 : Int32) (fm0 : Value) (gl : own_Gl Z z0 fm0) (ws : List Jvm.Cond) (i : Int32) (n : Int32) (v1 : Value) (h0 : Heap) (n0 : Nat) (Z0 : n0 ≤ h0.size) (r1 : v1.isRef = true) (hi0 : ¬ i < (0 : Int32)) (hn0 : ¬ n < (0 : Int32)) (hr : ¬ ((16 : Int32) - i) < n) :
    own_MetN l Z (⟨"jdk/internal/util/Preconditions", "checkFromIndexSize", "(IIILjava/util/function/BiFunction;)I"⟩ : MethodName) jdk_41_method_13_code 4 (some .int) ws ({ frames := 0, cells := 0, slots := 0, locals := 0 } : Room) #[(.int i), (.int n), (.int (16 : Int32)), v1] h0 (fun v h L => Fr n0 L ∧ h = h0 ∧ (((v = some (.int i))))) := by
  refine own_metN (plainFor_of_name own_pn2) ?_
  intro p e s m below meth c s₁ G hx hby hml hZ hown hnm hret X0 e0 go fin
  obtain ⟨O2, P5, O4, R4, O_ad, O_hi, O_lo⟩ := id gl
  have N0 := Fr.nil n0
  refine go _ _ (fun _ k => castTop (own_ef_rm53 m i n (16 : Int32) v1 r1) k) ?_
  show G (s₁.setTop (mkF m 0 #[i' i, i' n, i' 16, .val v1] []))
  refine go _ _ (fun _ k => XS.iloadN X0.here hx rfl (hb hby own_d53_0) rfl (XS.iloadN X0.here hx rfl (hb hby own_d53_1) rfl (XS.ior X0.here hx rfl (hb hby own_d53_2) rfl (XS.iloadN X0.here hx rfl (hb hby own_d53_3) rfl (XS.ior X0.here hx rfl (hb hby own_d53_4) rfl k))))) ?_
  show G (s₁.setTop (mkF m 5 #[i' i, i' n, i' 16, .val v1] [(.int (((16 : Int32) ||| i) ||| n))]))
  refine go _ _ (fun _ k => XS.ifNo X0.here hx rfl (hb hby own_d53_5) rfl ((if0 _ _).trans (flt (own_or0 (own_or0 (by decide) hi0) hn0)).1) k) ?_
  show G (s₁.setTop (mkF m 8 #[i' i, i' n, i' 16, .val v1] []))
  refine go _ _ (fun _ k => XS.iloadN X0.here hx rfl (hb hby own_d53_8) rfl (XS.iloadN X0.here hx rfl (hb hby own_d53_9) rfl (XS.iloadN X0.here hx rfl (hb hby own_d53_10) rfl (XS.isub X0.here hx rfl (hb hby own_d53_11) rfl k)))) ?_
  show G (s₁.setTop (mkF m 12 #[i' i, i' n, i' 16, .val v1] [(.int ((16 : Int32) - i)), (.int n)]))
  refine go _ _ (fun _ k => XS.icmpYes X0.here hx rfl (pc0 := 12) (pc' := 23) rfl (hb hby own_d53_12) rfl (flt hr).2.2.2 (by decide) (by decide) k) ?_
  show G (s₁.setTop (mkF m 23 #[i' i, i' n, i' 16, .val v1] []))
  refine go _ _ (fun _ k => XS.iloadN X0.here hx rfl (hb hby own_d53_23) rfl k) ?_
  show G (s₁.setTop (mkF m 24 #[i' i, i' n, i' 16, .val v1] [(.int i)]))
  refine fin s₁ _ _ _ (some (.int i)) X0 (fun q => nomatch q) (by decide) (by decide) (by rw [e0]; exact ⟨N0, rfl, rfl⟩) _ (own_retI X0 hx hret (hb hby own_d53_24))
theorem own_d52_0 : decode jdk_42_method_157_code 0 = .ok (.iload_n 0, 1) := by decide +kernel
theorem own_d52_1 : decode jdk_42_method_157_code 1 = .ok (.iload_n 1, 1) := by decide +kernel
theorem own_d52_2 : decode jdk_42_method_157_code 2 = .ok (.iload_n 2, 1) := by decide +kernel
theorem own_d52_3 : decode jdk_42_method_157_code 3 = .ok (.getstatic 1053, 3) := by decide +kernel
theorem own_pd3 : parseMethodDescriptor "(IIILjava/util/function/BiFunction;)I" = some ⟨[.int, .int, .int, (.object "java/util/function/BiFunction")], some .int⟩ := by decide +kernel
theorem own_d52_6 : decode jdk_42_method_157_code 6 = .ok (.invokestatic 1065, 3) := by decide +kernel
theorem own_d52_9 : decode jdk_42_method_157_code 9 = .ok (.ireturn, 1) := by decide +kernel
set_option maxHeartbeats 4000000 in
theorem own_ef_rm52 (m : MethodId) (x0 : Int32) (x1 : Int32) (x2 : Int32) : entryFrame m #[(.int x0), (.int x1), (.int x2)] 3 = mkF m 0 #[.val (.int x0), .val (.int x1), .val (.int x2)] [] := by rfl
set_option maxRecDepth 65536 in
set_option maxHeartbeats 40000000 in
theorem rm52 (l : Launch) (Z : State) (a0 : Array Value) (hw : ∀ d ∈ tables_1, d.before a0 Z = true) (z0 : Int32) (fm0 : Value) (gl : own_Gl Z z0 fm0) (ws : List Jvm.Cond) (i : Int32) (n : Int32) (h0 : Heap) (n0 : Nat) (Z0 : n0 ≤ h0.size) (Xo : Old Z n0 h0) (hi0 : ¬ i < (0 : Int32)) (hn0 : ¬ n < (0 : Int32)) (hr : ¬ ((16 : Int32) - i) < n) :
    own_MetN l Z (⟨"java/lang/String", "checkBoundsOffCount", "(III)I"⟩ : MethodName) jdk_42_method_157_code 3 (some .int) ws ({ frames := 1, cells := 0, slots := 0, locals := 15 } : Room) #[(.int i), (.int n), (.int (16 : Int32))] h0 (fun v h L => Fr n0 L ∧ h = h0 ∧ (((v = some (.int i))))) := by
  refine own_metN (plainFor_of_name own_pn0) ?_
  intro p e s m below meth c s₁ G hx hby hml hZ hown hnm hret X0 e0 go fin
  obtain ⟨O2, P5, O4, R4, O_ad, O_hi, O_lo⟩ := id gl
  have N0 := Fr.nil n0
  refine go _ _ (fun _ k => castTop (own_ef_rm52 m i n (16 : Int32)) k) ?_
  show G (s₁.setTop (mkF m 0 #[i' i, i' n, i' 16] []))
  refine go _ _ (fun _ k => XS.iloadN X0.here hx rfl (hb hby own_d52_0) rfl (XS.iloadN X0.here hx rfl (hb hby own_d52_1) rfl (XS.iloadN X0.here hx rfl (hb hby own_d52_2) rfl k))) ?_
  obtain ⟨T101, X101, e101, st101⟩ := getS2 X0 hx hZ (host := "") hown (Or.inl (ow hw 167 rfl)) Via.refl e0 (O4.ext Xo.2) (g := (mkF m 3 #[i' i, i' n, i' 16] [(.int 16), (.int n), (.int i)])) rfl (hb hby own_d52_3)
  refine go _ _ (st101) ?_
  obtain ⟨rv102, T102, L102, X102, q102, st102⟩ := own_st X101 hx hZ (y := (⟨"jdk/internal/util/Preconditions", "checkFromIndexSize", "(IIILjava/util/function/BiFunction;)I"⟩ : MethodName)) hown (ow hw 244 rfl) (ow hw 245 rfl) (ow hw 168 rfl) (ow hw 246 rfl) (by decide) (own_bkN (W := 0) (rm53 l Z a0 hw z0 fm0 gl [] i n fm0 h0 n0 Z0 R4 hi0 hn0 hr) hZ (ow hw 246 rfl) (ow hw 168 rfl) (by decide) (by decide)) e101 (g := (mkF m 6 #[i' i, i' n, i' 16] [fm0, (.int 16), (.int n), (.int i)])) rfl (by rw [hml]; rfl) (argsL := [(.int i), (.int n), (.int (16 : Int32)), fm0]) (rest := []) rfl (lenOf own_pd3 rfl) rfl (by show 2 * 0 + _ ≤ _; exact Nat.le_of_eq rfl) (hb hby own_d52_6) (by decide) (by decide)
  obtain ⟨Nq102, e102, rfl⟩ := q102
  have N102 := Fr.app N0 Nq102
  refine go _ _ (st102) ?_
  show G (T102.setTop (mkF m 9 #[i' i, i' n, i' 16] [(.int i)]))
  refine fin T102 _ _ _ (some (.int i)) X102 (fun q => nomatch q) (by decide) (by decide) (by rw [e102]; exact ⟨N102, rfl, rfl⟩) _ (own_retI X102 hx hret (hb hby own_d52_9))
theorem own_d50_0 : decode jdk_52_method_94_code 0 = .ok (.iload_n 0, 1) := by decide +kernel
theorem own_d50_1 : decode jdk_52_method_94_code 1 = .ok (.iload_n 1, 1) := by decide +kernel
theorem own_d50_2 : decode jdk_52_method_94_code 2 = .ok (.aload_n 2, 1) := by decide +kernel
theorem own_d50_3 : decode jdk_52_method_94_code 3 = .ok (.invokestatic 48, 3) := by decide +kernel
theorem own_pd4 : parseMethodDescriptor "(III)I" = some ⟨[.int, .int, .int], some .int⟩ := by decide +kernel
theorem own_d50_6 : decode jdk_52_method_94_code 6 = .ok (.invokestatic 419, 3) := by decide +kernel
theorem own_d50_9 : decode jdk_52_method_94_code 9 = .ok (.pop, 1) := by decide +kernel
theorem own_d50_10 : decode jdk_52_method_94_code 10 = .ok (.return_, 1) := by decide +kernel
set_option maxHeartbeats 4000000 in
theorem own_ef_rm50 (m : MethodId) (x0 : Int32) (x1 : Int32) (x2 : Addr) : entryFrame m #[(.int x0), (.int x1), (.ref x2)] 3 = mkF m 0 #[.val (.int x0), .val (.int x1), .val (.ref x2)] [] := by rfl
set_option maxRecDepth 65536 in
set_option maxHeartbeats 40000000 in
theorem rm50 (l : Launch) (Z : State) (a0 : Array Value) (hw : ∀ d ∈ tables_1, d.before a0 Z = true) (z0 : Int32) (fm0 : Value) (gl : own_Gl Z z0 fm0) (ws : List Jvm.Cond) (i : Int32) (n : Int32) (t : Addr) (kb : ClassId) (vs : List Value) (h0 : Heap) (n0 : Nat) (Z0 : n0 ≤ h0.size) (Xo : Old Z n0 h0) (At : Arv Z h0 t kb .byte (32 : Int32) vs (.int (0 : Int32))) (hi0 : ¬ i < (0 : Int32)) (hn0 : ¬ n < (0 : Int32)) (hr : ¬ ((16 : Int32) - i) < n) :
    own_MetN l Z (⟨"java/lang/StringUTF16", "checkBoundsOffCount", "(II[B)V"⟩ : MethodName) jdk_52_method_94_code 3 none ws ({ frames := 2, cells := 0, slots := 0, locals := 29 } : Room) #[(.int i), (.int n), (.ref t)] h0 (fun v h L => Fr n0 L ∧ h = h0 ∧ (((v = none)))) := by
  refine own_metN (plainFor_of_name own_pn3) ?_
  intro p e s m below meth c s₁ G hx hby hml hZ hown hnm hret X0 e0 go fin
  obtain ⟨O2, P5, O4, R4, O_ad, O_hi, O_lo⟩ := id gl
  have N0 := Fr.nil n0
  refine go _ _ (fun _ k => castTop (own_ef_rm50 m i n t) k) ?_
  show G (s₁.setTop (mkF m 0 #[i' i, i' n, r' t] []))
  refine go _ _ (fun _ k => XS.iloadN X0.here hx rfl (hb hby own_d50_0) rfl (XS.iloadN X0.here hx rfl (hb hby own_d50_1) rfl (XS.aloadN X0.here hx rfl (hb hby own_d50_2) rfl rfl k))) ?_
  obtain ⟨rv101, T101, L101, X101, q101, st101⟩ := own_st X0 hx hZ (y := (⟨"java/lang/StringUTF16", "length", "([B)I"⟩ : MethodName)) hown (ow hw 238 rfl) (ow hw 239 rfl) (ow hw 196 rfl) (ow hw 240 rfl) (by decide) (own_bkN (W := 2) (rmUlA l Z a0 hw z0 fm0 gl [] t kb vs h0 n0 Z0 At) hZ (ow hw 240 rfl) (ow hw 196 rfl) (by decide) (by decide)) e0 (g := (mkF m 3 #[i' i, i' n, r' t] [(.ref t), (.int n), (.int i)])) rfl (by rw [hml]; rfl) (argsL := [(.ref t)]) (rest := [(.int n), (.int i)]) rfl (lenOf own_pd1 rfl) rfl (by show 2 * 0 + _ ≤ _; exact Nat.le_of_eq rfl) (hb hby own_d50_3) (by decide) (by decide)
  obtain ⟨Nq101, e101, rfl⟩ := q101
  have N101 := Fr.app N0 Nq101
  refine go _ _ (st101) ?_
  obtain ⟨rv102, T102, L102, X102, q102, st102⟩ := own_st X101 hx hZ (y := (⟨"java/lang/String", "checkBoundsOffCount", "(III)I"⟩ : MethodName)) hown (ow hw 241 rfl) (ow hw 242 rfl) (ow hw 5 rfl) (ow hw 243 rfl) (by decide) (own_bkN (W := 0) (rm52 l Z a0 hw z0 fm0 gl [] i n h0 n0 Z0 Xo hi0 hn0 hr) hZ (ow hw 243 rfl) (ow hw 5 rfl) (by decide) (by decide)) e101 (g := (mkF m 6 #[i' i, i' n, r' t] [(.int 16), (.int n), (.int i)])) rfl (by rw [hml]; rfl) (argsL := [(.int i), (.int n), (.int (16 : Int32))]) (rest := []) rfl (lenOf own_pd4 rfl) rfl (by show 2 * 0 + _ ≤ _; exact Nat.le_of_eq rfl) (hb hby own_d50_6) (by decide) (by decide)
  obtain ⟨Nq102, e102, rfl⟩ := q102
  have N102 := Fr.app N101 Nq102
  refine go _ _ (st102) ?_
  show G (T102.setTop (mkF m 9 #[i' i, i' n, r' t] [(.int i)]))
  refine go _ _ (fun _ k => XS.pop X102.here hx rfl (hb hby own_d50_9) rfl rfl k) ?_
  show G (T102.setTop (mkF m 10 #[i' i, i' n, r' t] []))
  refine fin T102 _ _ _ none X102 (fun _ => rfl) (by decide) (by decide) (by rw [e102]; exact ⟨N102, rfl, rfl⟩) _ (own_retV X102 hx hret (hb hby own_d50_10))
theorem own_d45_0 : decode jdk_52_method_5_code 0 = .ok (.getstatic 44, 3) := by decide +kernel
theorem own_d45_3 : decode jdk_52_method_5_code 3 = .ok (.ifCond .ne 25, 3) := by decide +kernel
theorem own_d45_28 : decode jdk_52_method_5_code 28 = .ok (.iload_n 1, 1) := by decide +kernel
theorem own_d45_29 : decode jdk_52_method_5_code 29 = .ok (.iconst 1, 1) := by decide +kernel
theorem own_d45_30 : decode jdk_52_method_5_code 30 = .ok (.ishl, 1) := by decide +kernel
theorem own_d45_31 : decode jdk_52_method_5_code 31 = .ok (.istore_n 1, 1) := by decide +kernel
theorem own_d45_32 : decode jdk_52_method_5_code 32 = .ok (.aload_n 0, 1) := by decide +kernel
theorem own_d45_33 : decode jdk_52_method_5_code 33 = .ok (.iload_n 1, 1) := by decide +kernel
theorem own_d45_34 : decode jdk_52_method_5_code 34 = .ok (.iinc 1 1, 3) := by decide +kernel
theorem own_d45_37 : decode jdk_52_method_5_code 37 = .ok (.baload, 1) := by decide +kernel
theorem own_d45_38 : decode jdk_52_method_5_code 38 = .ok (.sipush 255, 3) := by decide +kernel
theorem own_d45_41 : decode jdk_52_method_5_code 41 = .ok (.iand, 1) := by decide +kernel
theorem own_d45_42 : decode jdk_52_method_5_code 42 = .ok (.getstatic 59, 3) := by decide +kernel
theorem own_d45_45 : decode jdk_52_method_5_code 45 = .ok (.ishl, 1) := by decide +kernel
theorem own_d45_46 : decode jdk_52_method_5_code 46 = .ok (.aload_n 0, 1) := by decide +kernel
theorem own_d45_47 : decode jdk_52_method_5_code 47 = .ok (.iload_n 1, 1) := by decide +kernel
theorem own_d45_48 : decode jdk_52_method_5_code 48 = .ok (.baload, 1) := by decide +kernel
theorem own_d45_49 : decode jdk_52_method_5_code 49 = .ok (.sipush 255, 3) := by decide +kernel
theorem own_d45_52 : decode jdk_52_method_5_code 52 = .ok (.iand, 1) := by decide +kernel
theorem own_d45_53 : decode jdk_52_method_5_code 53 = .ok (.getstatic 63, 3) := by decide +kernel
theorem own_d45_56 : decode jdk_52_method_5_code 56 = .ok (.ishl, 1) := by decide +kernel
theorem own_d45_57 : decode jdk_52_method_5_code 57 = .ok (.ior, 1) := by decide +kernel
theorem own_d45_58 : decode jdk_52_method_5_code 58 = .ok (.i2c, 1) := by decide +kernel
theorem own_d45_59 : decode jdk_52_method_5_code 59 = .ok (.ireturn, 1) := by decide +kernel
set_option maxHeartbeats 4000000 in
theorem own_ef_rm45 (m : MethodId) (x0 : Addr) (x1 : Int32) : entryFrame m #[(.ref x0), (.int x1)] 2 = mkF m 0 #[.val (.ref x0), .val (.int x1)] [] := by rfl
set_option maxRecDepth 65536 in
set_option maxHeartbeats 40000000 in
theorem rm45 (l : Launch) (Z : State) (a0 : Array Value) (hw : ∀ d ∈ tables_1, d.before a0 Z = true) (z0 : Int32) (fm0 : Value) (gl : own_Gl Z z0 fm0) (ws : List Jvm.Cond) (t : Addr) (i : Int32) (kb : ClassId) (zt : Int32) (xs : List Int32) (jn : Nat) (z : Int32) (h0 : Heap) (n0 : Nat) (Z0 : n0 ≤ h0.size) (Xo : Old Z n0 h0) (At : Arv Z h0 t kb .byte zt (own_u xs) (.int (0 : Int32))) (hj : i = (Int32.ofNat jn)) (hz : xs[jn]? = some z) (hbx : own_bd xs) (hlx : xs.length ≤ 4000) (hcz : 2 * xs.length ≤ zt.toNatClampNeg) :
    own_MetN l Z (⟨"java/lang/StringUTF16", "getChar", "([BI)C"⟩ : MethodName) jdk_52_method_5_code 2 (some .char) ws ({ frames := 0, cells := 0, slots := 0, locals := 0 } : Room) #[(.ref t), (.int i)] h0 (fun v h L => Fr n0 L ∧ h = h0 ∧ (((v = some (.int z))))) := by
  refine own_metN (plainFor_of_name own_pn3) ?_
  intro p e s m below meth c s₁ G hx hby hml hZ hown hnm hret X0 e0 go fin
  obtain ⟨O2, P5, O4, R4, O_ad, O_hi, O_lo⟩ := id gl
  have N0 := Fr.nil n0
  refine go _ _ (fun _ k => castTop (own_ef_rm45 m t i) k) ?_
  show G (s₁.setTop (mkF m 0 #[r' t, i' i] []))
  subst hj
  show G (s₁.setTop (mkF m 0 #[r' t, i' (Int32.ofNat jn)] []))
  have hjl : jn < xs.length := own_gl hz
  obtain ⟨T101, X101, e101, st101⟩ := getS2 X0 hx hZ (host := "") hown (Or.inl (ow hw 214 rfl)) Via.refl e0 (O_ad.ext Xo.2) (g := (mkF m 0 #[r' t, i' (Int32.ofNat jn)] [])) rfl (hb hby own_d45_0)
  refine go _ _ (st101) ?_
  show G (T101.setTop (mkF m 3 #[r' t, i' (Int32.ofNat jn)] [(.int 1)]))
  refine go _ _ (fun _ k => XS.ifYes X101.here hx rfl (pc0 := 3) (pc' := 28) rfl (hb hby own_d45_3) rfl (by decide) (by decide) (by decide) k) ?_
  show G (T101.setTop (mkF m 28 #[r' t, i' (Int32.ofNat jn)] []))
  refine go _ _ (fun _ k => XS.iloadN X101.here hx rfl (hb hby own_d45_28) rfl (XS.iconst X101.here hx rfl (hb hby own_d45_29) (XS.ishl X101.here hx rfl (hb hby own_d45_30) rfl k))) ?_
  show G (T101.setTop (mkF m 31 #[r' t, i' (Int32.ofNat jn)] [(.int ((Int32.ofNat jn) <<< ((1 : Int32) &&& 31)))]))
  rw [(own_shl1 (show jn ≤ 4000 by omega))]
  show G (T101.setTop (mkF m 31 #[r' t, i' (Int32.ofNat jn)] [(.int (Int32.ofNat (2 * jn)))]))
  refine go _ _ (fun _ k => XS.istoreN X101.here hx rfl (hb hby own_d45_31) rfl (l' := #[r' t, i' (Int32.ofNat (2 * jn))]) rfl (XS.aloadN X101.here hx rfl (hb hby own_d45_32) rfl rfl (XS.iloadN X101.here hx rfl (hb hby own_d45_33) rfl (XS.iinc X101.here hx rfl (hb hby own_d45_34) rfl (l' := #[r' t, i' ((Int32.ofNat (2 * jn)) + (1 : Int32))]) rfl k)))) ?_
  show G (T101.setTop (mkF m 37 #[r' t, i' ((Int32.ofNat (2 * jn)) + (1 : Int32))] [(.int (Int32.ofNat (2 * jn))), (.ref t)]))
  rw [(own_o1 (2 * jn))]
  show G (T101.setTop (mkF m 37 #[r' t, i' (Int32.ofNat (2 * jn + 1))] [(.int (Int32.ofNat (2 * jn))), (.ref t)]))
  obtain ⟨cl102, Ar102, q102, S102, M102, H102, U102⟩ := id At
  have ib102 := inb_of (j := (Int32.ofNat (2 * jn))) S102 ⟨own_jz (n := 2 * jn) (by omega), own_jlt (n := 2 * jn) (by omega)⟩
  refine go _ _ (fun _ k => X101.baloadBytes hx (j := (Int32.ofNat (2 * jn))) (v := .int (own_lo z)) (by rw [e101]; exact Ar102.1) (State.isArrayOf_alike hZ.alike Ar102.2.1) Ar102.2.2 ib102 (Has.at H102 ib102 (own_u_gD hz (by omega)).1) (g := (mkF m 37 #[r' t, i' (Int32.ofNat (2 * jn + 1))] [(.int (Int32.ofNat (2 * jn))), (.ref t)])) rfl rfl (hb hby own_d45_37) _ k) ?_
  show G (T101.setTop (mkF m 38 #[r' t, i' (Int32.ofNat (2 * jn + 1))] [(.int (own_lo z))]))
  refine go _ _ (fun _ k => XS.sipush X101.here hx rfl (hb hby own_d45_38) (XS.iand X101.here hx rfl (hb hby own_d45_41) rfl k)) ?_
  obtain ⟨T103, X103, e103, st103⟩ := getS2 X101 hx hZ (host := "") hown (Or.inl (ow hw 215 rfl)) Via.refl e101 (O_hi.ext Xo.2) (g := (mkF m 42 #[r' t, i' (Int32.ofNat (2 * jn + 1))] [(.int ((own_lo z) &&& (255 : Int32)))])) rfl (hb hby own_d45_42)
  refine go _ _ (st103) ?_
  show G (T103.setTop (mkF m 45 #[r' t, i' (Int32.ofNat (2 * jn + 1))] [(.int 0), (.int ((own_lo z) &&& (255 : Int32)))]))
  refine go _ _ (fun _ k => XS.ishl X103.here hx rfl (hb hby own_d45_45) rfl (XS.aloadN X103.here hx rfl (hb hby own_d45_46) rfl rfl (XS.iloadN X103.here hx rfl (hb hby own_d45_47) rfl k))) ?_
  show G (T103.setTop (mkF m 48 #[r' t, i' (Int32.ofNat (2 * jn + 1))] [(.int (Int32.ofNat (2 * jn + 1))), (.ref t), (.int (((own_lo z) &&& (255 : Int32)) <<< ((0 : Int32) &&& 31)))]))
  obtain ⟨cl104, Ar104, q104, S104, M104, H104, U104⟩ := id At
  have ib104 := inb_of (j := (Int32.ofNat (2 * jn + 1))) S104 ⟨own_jz (n := 2 * jn + 1) (by omega), own_jlt (n := 2 * jn + 1) (by omega)⟩
  refine go _ _ (fun _ k => X103.baloadBytes hx (j := (Int32.ofNat (2 * jn + 1))) (v := .int (own_hi z)) (by rw [e103]; exact Ar104.1) (State.isArrayOf_alike hZ.alike Ar104.2.1) Ar104.2.2 ib104 (Has.at H104 ib104 (own_u_gD hz (by omega)).2) (g := (mkF m 48 #[r' t, i' (Int32.ofNat (2 * jn + 1))] [(.int (Int32.ofNat (2 * jn + 1))), (.ref t), (.int (((own_lo z) &&& (255 : Int32)) <<< ((0 : Int32) &&& 31)))])) rfl rfl (hb hby own_d45_48) _ k) ?_
  show G (T103.setTop (mkF m 49 #[r' t, i' (Int32.ofNat (2 * jn + 1))] [(.int (own_hi z)), (.int (((own_lo z) &&& (255 : Int32)) <<< ((0 : Int32) &&& 31)))]))
  refine go _ _ (fun _ k => XS.sipush X103.here hx rfl (hb hby own_d45_49) (XS.iand X103.here hx rfl (hb hby own_d45_52) rfl k)) ?_
  obtain ⟨T105, X105, e105, st105⟩ := getS2 X103 hx hZ (host := "") hown (Or.inl (ow hw 216 rfl)) Via.refl e103 (O_lo.ext Xo.2) (g := (mkF m 53 #[r' t, i' (Int32.ofNat (2 * jn + 1))] [(.int ((own_hi z) &&& (255 : Int32))), (.int (((own_lo z) &&& (255 : Int32)) <<< ((0 : Int32) &&& 31)))])) rfl (hb hby own_d45_53)
  refine go _ _ (st105) ?_
  show G (T105.setTop (mkF m 56 #[r' t, i' (Int32.ofNat (2 * jn + 1))] [(.int 8), (.int ((own_hi z) &&& (255 : Int32))), (.int (((own_lo z) &&& (255 : Int32)) <<< ((0 : Int32) &&& 31)))]))
  refine go _ _ (fun _ k => XS.ishl X105.here hx rfl (hb hby own_d45_56) rfl (XS.ior X105.here hx rfl (hb hby own_d45_57) rfl (XS.i2c X105.here hx rfl (hb hby own_d45_58) rfl k))) ?_
  show G (T105.setTop (mkF m 59 #[r' t, i' (Int32.ofNat (2 * jn + 1))] [(.int (((((own_lo z) &&& (255 : Int32)) <<< ((0 : Int32) &&& 31)) ||| (((own_hi z) &&& (255 : Int32)) <<< ((8 : Int32) &&& 31))).toUInt32.toUInt16.toUInt32.toInt32))]))
  rw [(own_rt (own_bdz hbx hz).1 (own_bdz hbx hz).2)]
  show G (T105.setTop (mkF m 59 #[r' t, i' (Int32.ofNat (2 * jn + 1))] [(.int z)]))
  refine fin T105 _ _ _ (some (.int (nar .char z))) X105 (fun q => nomatch q) (by decide) (by decide) (by rw [e105]; exact ⟨N0, rfl, (congrArg (fun z => some (Value.int z)) (own_nar16 (own_bdz hbx hz).1 (own_bdz hbx hz).2))⟩) _ (own_retN X105 hx (z := z) (t := .char) hret (by simp) (hb hby own_d45_59))
theorem own_d44_0 : decode jdk_52_method_4_code 0 = .ok (.getstatic 44, 3) := by decide +kernel
theorem own_d44_3 : decode jdk_52_method_4_code 3 = .ok (.ifCond .ne 25, 3) := by decide +kernel
theorem own_d44_28 : decode jdk_52_method_4_code 28 = .ok (.iload_n 1, 1) := by decide +kernel
theorem own_d44_29 : decode jdk_52_method_4_code 29 = .ok (.iconst 1, 1) := by decide +kernel
theorem own_d44_30 : decode jdk_52_method_4_code 30 = .ok (.ishl, 1) := by decide +kernel
theorem own_d44_31 : decode jdk_52_method_4_code 31 = .ok (.istore_n 1, 1) := by decide +kernel
theorem own_d44_32 : decode jdk_52_method_4_code 32 = .ok (.aload_n 0, 1) := by decide +kernel
theorem own_d44_33 : decode jdk_52_method_4_code 33 = .ok (.iload_n 1, 1) := by decide +kernel
theorem own_d44_34 : decode jdk_52_method_4_code 34 = .ok (.iinc 1 1, 3) := by decide +kernel
theorem own_d44_37 : decode jdk_52_method_4_code 37 = .ok (.iload_n 2, 1) := by decide +kernel
theorem own_d44_38 : decode jdk_52_method_4_code 38 = .ok (.getstatic 59, 3) := by decide +kernel
theorem own_d44_41 : decode jdk_52_method_4_code 41 = .ok (.ishr, 1) := by decide +kernel
theorem own_d44_42 : decode jdk_52_method_4_code 42 = .ok (.i2b, 1) := by decide +kernel
theorem own_d44_43 : decode jdk_52_method_4_code 43 = .ok (.bastore, 1) := by decide +kernel
theorem own_d44_44 : decode jdk_52_method_4_code 44 = .ok (.aload_n 0, 1) := by decide +kernel
theorem own_d44_45 : decode jdk_52_method_4_code 45 = .ok (.iload_n 1, 1) := by decide +kernel
theorem own_d44_46 : decode jdk_52_method_4_code 46 = .ok (.iload_n 2, 1) := by decide +kernel
theorem own_d44_47 : decode jdk_52_method_4_code 47 = .ok (.getstatic 63, 3) := by decide +kernel
theorem own_d44_50 : decode jdk_52_method_4_code 50 = .ok (.ishr, 1) := by decide +kernel
theorem own_d44_51 : decode jdk_52_method_4_code 51 = .ok (.i2b, 1) := by decide +kernel
theorem own_d44_52 : decode jdk_52_method_4_code 52 = .ok (.bastore, 1) := by decide +kernel
theorem own_d44_53 : decode jdk_52_method_4_code 53 = .ok (.return_, 1) := by decide +kernel
set_option maxHeartbeats 4000000 in
theorem own_ef_rm44 (m : MethodId) (x0 : Addr) (x1 : Int32) (x2 : Int32) : entryFrame m #[(.ref x0), (.int x1), (.int x2)] 3 = mkF m 0 #[.val (.ref x0), .val (.int x1), .val (.int x2)] [] := by rfl
set_option maxRecDepth 65536 in
set_option maxHeartbeats 40000000 in
theorem rm44 (l : Launch) (Z : State) (a0 : Array Value) (hw : ∀ d ∈ tables_1, d.before a0 Z = true) (z0 : Int32) (fm0 : Value) (gl : own_Gl Z z0 fm0) (ws : List Jvm.Cond) (t : Addr) (i : Int32) (q : Int32) (kb : ClassId) (zt : Int32) (xs : List Int32) (h0 : Heap) (n0 : Nat) (Z0 : n0 ≤ h0.size) (Xo : Old Z n0 h0) (At : Arv Z h0 t kb .byte zt (own_u xs) (.int (0 : Int32))) (hi : i = (own_n xs)) (hcz : 2 * xs.length + 2 ≤ zt.toNatClampNeg) (hlx : xs.length ≤ 4000) (gz_t : n0 ≤ t) :
    own_MetN l Z (⟨"java/lang/StringUTF16", "putChar", "([BII)V"⟩ : MethodName) jdk_52_method_4_code 3 none ws ({ frames := 0, cells := 0, slots := 0, locals := 0 } : Room) #[(.ref t), (.int i), (.int q)] h0 (fun v h L => Fr n0 L ∧ Keep h0 h [t] ∧ (((v = none) ∧ (Arv Z h t kb .byte zt (own_u (xs ++ [q])) (.int (0 : Int32)))))) := by
  refine own_metN (plainFor_of_name own_pn3) ?_
  intro p e s m below meth c s₁ G hx hby hml hZ hown hnm hret X0 e0 go fin
  obtain ⟨O2, P5, O4, R4, O_ad, O_hi, O_lo⟩ := id gl
  have N0 := Fr.nil n0
  refine go _ _ (fun _ k => castTop (own_ef_rm44 m t i q) k) ?_
  show G (s₁.setTop (mkF m 0 #[r' t, i' i, i' q] []))
  subst hi
  show G (s₁.setTop (mkF m 0 #[r' t, i' (own_n xs), i' q] []))
  obtain ⟨T101, X101, e101, st101⟩ := getS2 X0 hx hZ (host := "") hown (Or.inl (ow hw 214 rfl)) Via.refl e0 (O_ad.ext Xo.2) (g := (mkF m 0 #[r' t, i' (own_n xs), i' q] [])) rfl (hb hby own_d44_0)
  refine go _ _ (st101) ?_
  show G (T101.setTop (mkF m 3 #[r' t, i' (own_n xs), i' q] [(.int 1)]))
  refine go _ _ (fun _ k => XS.ifYes X101.here hx rfl (pc0 := 3) (pc' := 28) rfl (hb hby own_d44_3) rfl (by decide) (by decide) (by decide) k) ?_
  show G (T101.setTop (mkF m 28 #[r' t, i' (own_n xs), i' q] []))
  refine go _ _ (fun _ k => XS.iloadN X101.here hx rfl (hb hby own_d44_28) rfl (XS.iconst X101.here hx rfl (hb hby own_d44_29) (XS.ishl X101.here hx rfl (hb hby own_d44_30) rfl k))) ?_
  show G (T101.setTop (mkF m 31 #[r' t, i' (own_n xs), i' q] [(.int ((own_n xs) <<< ((1 : Int32) &&& 31)))]))
  rw [(own_shl2 hlx)]
  show G (T101.setTop (mkF m 31 #[r' t, i' (own_n xs), i' q] [(.int (own_n2 xs))]))
  refine go _ _ (fun _ k => XS.istoreN X101.here hx rfl (hb hby own_d44_31) rfl (l' := #[r' t, i' (own_n2 xs), i' q]) rfl (XS.aloadN X101.here hx rfl (hb hby own_d44_32) rfl rfl (XS.iloadN X101.here hx rfl (hb hby own_d44_33) rfl (XS.iinc X101.here hx rfl (hb hby own_d44_34) rfl (l' := #[r' t, i' ((own_n2 xs) + (1 : Int32)), i' q]) rfl (XS.iloadN X101.here hx rfl (hb hby own_d44_37) rfl k))))) ?_
  obtain ⟨T102, X102, e102, st102⟩ := getS2 X101 hx hZ (host := "") hown (Or.inl (ow hw 215 rfl)) Via.refl e101 (O_hi.ext Xo.2) (g := (mkF m 38 #[r' t, i' ((own_n2 xs) + (1 : Int32)), i' q] [(.int q), (.int (own_n2 xs)), (.ref t)])) rfl (hb hby own_d44_38)
  refine go _ _ (st102) ?_
  show G (T102.setTop (mkF m 41 #[r' t, i' ((own_n2 xs) + (1 : Int32)), i' q] [(.int 0), (.int q), (.int (own_n2 xs)), (.ref t)]))
  refine go _ _ (fun _ k => XS.ishr X102.here hx rfl (hb hby own_d44_41) rfl (XS.i2b X102.here hx rfl (hb hby own_d44_42) rfl k)) ?_
  have Vp103 : Arv Z h0 t kb .byte zt (own_u xs ++ [Value.int 0, Value.int 0]) (.int 0) := At.pad (pad_rep _ _ 2)
  obtain ⟨cl103, Ar103, q103, S103, M103, H103, U103⟩ := id Vp103
  obtain ⟨T103, h103, X103, e103, W103, st103⟩ := stB X102 hx hZ e102 Ar103 (j := (own_n2 xs)) (inb_of S103 ⟨own_jz (n := 2 * xs.length) (by omega), own_jlt (n := 2 * xs.length) (by omega)⟩) (g := (mkF m 43 #[r' t, i' ((own_n2 xs) + (1 : Int32)), i' q] [(.int ((q >>> ((0 : Int32) &&& 31)).toInt8.toInt32)), (.int (own_n2 xs)), (.ref t)])) rfl rfl (hb hby own_d44_43)
  have V103 := Arv.set Ar103 q103 S103 M103 H103 U103 (fits_nar_byte _) W103 (2 * xs.length) (own_jN (n := 2 * xs.length) (by omega)) (by simp only [List.length_append, own_u_len, List.length_cons, List.length_nil] <;> omega)
  rw [own_i2bb, own_us1] at V103
  have N103 := Fr.snoc X103 N0 gz_t
  refine go _ _ (st103) ?_
  show G (T103.setTop (mkF m 44 #[r' t, i' ((own_n2 xs) + (1 : Int32)), i' q] []))
  refine go _ _ (fun _ k => XS.aloadN X103.here hx rfl (hb hby own_d44_44) rfl rfl (XS.iloadN X103.here hx rfl (hb hby own_d44_45) rfl (XS.iloadN X103.here hx rfl (hb hby own_d44_46) rfl k))) ?_
  have K105 : Keep h0 h103 [t] := (Keep.refl h0 [t]).wr W103 (Or.inl (List.mem_of_getElem? (i := 0) rfl))
  have F106 : Old Z n0 h103 := (Xo.keep K105 (allS gz_t all0))
  obtain ⟨T104, X104, e104, st104⟩ := getS2 X103 hx hZ (host := "") hown (Or.inl (ow hw 216 rfl)) Via.refl e103 (O_lo.ext F106.2) (g := (mkF m 47 #[r' t, i' ((own_n2 xs) + (1 : Int32)), i' q] [(.int q), (.int ((own_n2 xs) + (1 : Int32))), (.ref t)])) rfl (hb hby own_d44_47)
  refine go _ _ (st104) ?_
  show G (T104.setTop (mkF m 50 #[r' t, i' ((own_n2 xs) + (1 : Int32)), i' q] [(.int 8), (.int q), (.int ((own_n2 xs) + (1 : Int32))), (.ref t)]))
  refine go _ _ (fun _ k => XS.ishr X104.here hx rfl (hb hby own_d44_50) rfl (XS.i2b X104.here hx rfl (hb hby own_d44_51) rfl k)) ?_
  show G (T104.setTop (mkF m 52 #[r' t, i' ((own_n2 xs) + (1 : Int32)), i' q] [(.int ((q >>> ((8 : Int32) &&& 31)).toInt8.toInt32)), (.int ((own_n2 xs) + (1 : Int32))), (.ref t)]))
  rw [(own_n2o xs)]
  show G (T104.setTop (mkF m 52 #[r' t, i' (Int32.ofNat (2 * xs.length + 1)), i' q] [(.int ((q >>> ((8 : Int32) &&& 31)).toInt8.toInt32)), (.int (Int32.ofNat (2 * xs.length + 1))), (.ref t)]))
  obtain ⟨cl107, Ar107, q107, S107, M107, H107, U107⟩ := id V103
  obtain ⟨T107, h107, X107, e107, W107, st107⟩ := stB X104 hx hZ e104 Ar107 (j := (Int32.ofNat (2 * xs.length + 1))) (inb_of S107 ⟨own_jz (n := 2 * xs.length + 1) (by omega), own_jlt (n := 2 * xs.length + 1) (by omega)⟩) (g := (mkF m 52 #[r' t, i' (Int32.ofNat (2 * xs.length + 1)), i' q] [(.int ((q >>> ((8 : Int32) &&& 31)).toInt8.toInt32)), (.int (Int32.ofNat (2 * xs.length + 1))), (.ref t)])) rfl rfl (hb hby own_d44_52)
  have V107 := Arv.set Ar107 q107 S107 M107 H107 U107 (fits_nar_byte _) W107 (2 * xs.length + 1) (own_jN (n := 2 * xs.length + 1) (by omega)) (by simp only [List.length_append, own_u_len, List.length_cons, List.length_nil] <;> omega)
  rw [own_i2bb, own_us2] at V107
  have N107 := Fr.snoc X107 N103 gz_t
  refine go _ _ (st107) ?_
  show G (T107.setTop (mkF m 53 #[r' t, i' (Int32.ofNat (2 * xs.length + 1)), i' q] []))
  have K108 : Keep h0 h107 [t] := K105.wr W107 (Or.inl (List.mem_of_getElem? (i := 0) rfl))
  refine fin T107 _ _ _ none X107 (fun _ => rfl) (by decide) (by decide) (by rw [e107]; exact ⟨N107, K108, ⟨rfl, V107⟩⟩) _ (own_retV X107 hx hret (hb hby own_d44_53))
theorem own_d54_0 : decode jdk_52_method_71_code 0 = .ok (.iload_n 1, 1) := by decide +kernel
theorem own_d54_1 : decode jdk_52_method_71_code 1 = .ok (.aload_n 0, 1) := by decide +kernel
theorem own_pd5 : parseMethodDescriptor "(I[B)V" = some ⟨[.int, (.array .byte)], none⟩ := by decide +kernel
theorem own_d54_2 : decode jdk_52_method_71_code 2 = .ok (.invokestatic 67, 3) := by decide +kernel
theorem own_d54_5 : decode jdk_52_method_71_code 5 = .ok (.aload_n 0, 1) := by decide +kernel
theorem own_d54_6 : decode jdk_52_method_71_code 6 = .ok (.iload_n 1, 1) := by decide +kernel
theorem own_d54_7 : decode jdk_52_method_71_code 7 = .ok (.iload_n 2, 1) := by decide +kernel
theorem own_pd6 : parseMethodDescriptor "([BII)V" = some ⟨[(.array .byte), .int, .int], none⟩ := by decide +kernel
theorem own_d54_8 : decode jdk_52_method_71_code 8 = .ok (.invokestatic 111, 3) := by decide +kernel
theorem own_d54_11 : decode jdk_52_method_71_code 11 = .ok (.return_, 1) := by decide +kernel
set_option maxHeartbeats 4000000 in
theorem own_ef_rm54 (m : MethodId) (x0 : Addr) (x1 : Int32) (x2 : Int32) : entryFrame m #[(.ref x0), (.int x1), (.int x2)] 3 = mkF m 0 #[.val (.ref x0), .val (.int x1), .val (.int x2)] [] := by rfl
set_option maxRecDepth 65536 in
set_option maxHeartbeats 40000000 in
theorem rm54 (l : Launch) (Z : State) (a0 : Array Value) (hw : ∀ d ∈ tables_1, d.before a0 Z = true) (z0 : Int32) (fm0 : Value) (gl : own_Gl Z z0 fm0) (ws : List Jvm.Cond) (t : Addr) (i : Int32) (q : Int32) (kb : ClassId) (xs : List Int32) (h0 : Heap) (n0 : Nat) (Z0 : n0 ≤ h0.size) (Xo : Old Z n0 h0) (At : Arv Z h0 t kb .byte (32 : Int32) (own_u xs) (.int (0 : Int32))) (hi : i = (own_n xs)) (hl : xs.length < 16) (gz_t : n0 ≤ t) :
    own_MetN l Z (⟨"java/lang/StringUTF16", "putCharSB", "([BII)V"⟩ : MethodName) jdk_52_method_71_code 3 none ws ({ frames := 3, cells := 0, slots := 0, locals := 40 } : Room) #[(.ref t), (.int i), (.int q)] h0 (fun v h L => Fr n0 L ∧ Keep h0 h [t] ∧ (((v = none) ∧ (Arv Z h t kb .byte (32 : Int32) (own_u (xs ++ [q])) (.int (0 : Int32)))))) := by
  refine own_metN (plainFor_of_name own_pn3) ?_
  intro p e s m below meth c s₁ G hx hby hml hZ hown hnm hret X0 e0 go fin
  obtain ⟨O2, P5, O4, R4, O_ad, O_hi, O_lo⟩ := id gl
  have N0 := Fr.nil n0
  refine go _ _ (fun _ k => castTop (own_ef_rm54 m t i q) k) ?_
  show G (s₁.setTop (mkF m 0 #[r' t, i' i, i' q] []))
  subst hi
  show G (s₁.setTop (mkF m 0 #[r' t, i' (own_n xs), i' q] []))
  refine go _ _ (fun _ k => XS.iloadN X0.here hx rfl (hb hby own_d54_0) rfl (XS.aloadN X0.here hx rfl (hb hby own_d54_1) rfl rfl k)) ?_
  obtain ⟨rv101, T101, L101, X101, q101, st101⟩ := own_st X0 hx hZ (y := (⟨"java/lang/StringUTF16", "checkIndex", "(I[B)V"⟩ : MethodName)) hown (ow hw 250 rfl) (ow hw 251 rfl) (ow hw 196 rfl) (ow hw 252 rfl) (by decide) (own_bkN (W := 0) (rmUcA l Z a0 hw z0 fm0 gl [] (own_n xs) t kb (own_u xs) h0 n0 Z0 Xo At (own_jz (n := xs.length) (by omega)) (own_j16 (n := xs.length) (by omega))) hZ (ow hw 252 rfl) (ow hw 196 rfl) (by decide) (by decide)) e0 (g := (mkF m 2 #[r' t, i' (own_n xs), i' q] [(.ref t), (.int (own_n xs))])) rfl (by rw [hml]; rfl) (argsL := [(.int (own_n xs)), (.ref t)]) (rest := []) rfl (lenOf own_pd5 rfl) rfl (by show 2 * 0 + _ ≤ _; exact Nat.le_of_eq rfl) (hb hby own_d54_2) (by decide) (by decide)
  obtain ⟨Nq101, e101, rfl⟩ := q101
  have N101 := Fr.app N0 Nq101
  refine go _ _ (st101) ?_
  show G (T101.setTop (mkF m 5 #[r' t, i' (own_n xs), i' q] []))
  refine go _ _ (fun _ k => XS.aloadN X101.here hx rfl (hb hby own_d54_5) rfl rfl (XS.iloadN X101.here hx rfl (hb hby own_d54_6) rfl (XS.iloadN X101.here hx rfl (hb hby own_d54_7) rfl k))) ?_
  obtain ⟨rv102, T102, L102, X102, q102, st102⟩ := own_st X101 hx hZ (y := (⟨"java/lang/StringUTF16", "putChar", "([BII)V"⟩ : MethodName)) hown (ow hw 211 rfl) (ow hw 212 rfl) (ow hw 196 rfl) (ow hw 213 rfl) (by decide) (own_bkN (W := 0) (rm44 l Z a0 hw z0 fm0 gl [] t (own_n xs) q kb (32 : Int32) xs h0 n0 Z0 Xo At rfl (show 2 * xs.length + 2 ≤ 32 by omega) (by omega) gz_t) hZ (ow hw 213 rfl) (ow hw 196 rfl) (by decide) (by decide)) e101 (g := (mkF m 8 #[r' t, i' (own_n xs), i' q] [(.int q), (.int (own_n xs)), (.ref t)])) rfl (by rw [hml]; rfl) (argsL := [(.ref t), (.int (own_n xs)), (.int q)]) (rest := []) rfl (lenOf own_pd6 rfl) rfl (by show 2 * 0 + _ ≤ _; exact Nat.le_of_eq rfl) (hb hby own_d54_8) (by decide) (by decide)
  obtain ⟨Nq102, Kp102, ⟨rfl, f103⟩⟩ := q102
  have N102 := Fr.app N101 Nq102
  refine go _ _ (st102) ?_
  show G (T102.setTop (mkF m 11 #[r' t, i' (own_n xs), i' q] []))
  have K104 : Keep h0 T102.heap [t] := (Keep.refl h0 [t]).trans Kp102 (allS (Or.inl (List.mem_of_getElem? (i := 0) rfl)) all0)
  refine fin T102 _ _ _ none X102 (fun _ => rfl) (by decide) (by decide) ⟨N102, K104, ⟨rfl, f103⟩⟩ _ (own_retV X102 hx hret (hb hby own_d54_11))
theorem own_pn4 : plainName "java/lang/StringLatin1" = true := by decide +kernel
theorem own_d30_0 : decode jdk_43_method_2_code 0 = .ok (.iload_n 1, 1) := by decide +kernel
theorem own_d30_1 : decode jdk_43_method_2_code 1 = .ok (.aload_n 0, 1) := by decide +kernel
theorem own_d30_2 : decode jdk_43_method_2_code 2 = .ok (.arraylength, 1) := by decide +kernel
theorem own_d30_3 : decode jdk_43_method_2_code 3 = .ok (.invokestatic 9, 3) := by decide +kernel
theorem own_d30_6 : decode jdk_43_method_2_code 6 = .ok (.aload_n 0, 1) := by decide +kernel
theorem own_d30_7 : decode jdk_43_method_2_code 7 = .ok (.iload_n 1, 1) := by decide +kernel
theorem own_d30_8 : decode jdk_43_method_2_code 8 = .ok (.baload, 1) := by decide +kernel
theorem own_d30_9 : decode jdk_43_method_2_code 9 = .ok (.sipush 255, 3) := by decide +kernel
theorem own_d30_12 : decode jdk_43_method_2_code 12 = .ok (.iand, 1) := by decide +kernel
theorem own_d30_13 : decode jdk_43_method_2_code 13 = .ok (.i2c, 1) := by decide +kernel
theorem own_d30_14 : decode jdk_43_method_2_code 14 = .ok (.ireturn, 1) := by decide +kernel
set_option maxHeartbeats 4000000 in
theorem own_ef_rm30 (m : MethodId) (x0 : Addr) (x1 : Int32) : entryFrame m #[(.ref x0), (.int x1)] 2 = mkF m 0 #[.val (.ref x0), .val (.int x1)] [] := by rfl
set_option maxRecDepth 65536 in
set_option maxHeartbeats 40000000 in
theorem rm30 (l : Launch) (Z : State) (a0 : Array Value) (hw : ∀ d ∈ tables_1, d.before a0 Z = true) (z0 : Int32) (fm0 : Value) (gl : own_Gl Z z0 fm0) (ws : List Jvm.Cond) (t : Addr) (i : Int32) (kb : ClassId) (xs : List Int32) (jn : Nat) (z : Int32) (h0 : Heap) (n0 : Nat) (Z0 : n0 ≤ h0.size) (Xo : Old Z n0 h0) (At : Arv Z h0 t kb .byte (own_n xs) (own_bs xs) (.int (0 : Int32))) (hj : i = (Int32.ofNat jn)) (hz : xs[jn]? = some z) (hbx : own_bd xs) (hlx : xs.length ≤ 4000) (hb8 : own_b8 xs) :
    own_MetN l Z (⟨"java/lang/StringLatin1", "charAt", "([BI)C"⟩ : MethodName) jdk_43_method_2_code 2 (some .char) ws ({ frames := 2, cells := 0, slots := 0, locals := 27 } : Room) #[(.ref t), (.int i)] h0 (fun v h L => Fr n0 L ∧ h = h0 ∧ (((v = some (.int z))))) := by
  refine own_metN (plainFor_of_name own_pn4) ?_
  intro p e s m below meth c s₁ G hx hby hml hZ hown hnm hret X0 e0 go fin
  obtain ⟨O2, P5, O4, R4, O_ad, O_hi, O_lo⟩ := id gl
  have N0 := Fr.nil n0
  refine go _ _ (fun _ k => castTop (own_ef_rm30 m t i) k) ?_
  show G (s₁.setTop (mkF m 0 #[r' t, i' i] []))
  subst hj
  show G (s₁.setTop (mkF m 0 #[r' t, i' (Int32.ofNat jn)] []))
  have hjl : jn < xs.length := own_gl hz
  refine go _ _ (fun _ k => XS.iloadN X0.here hx rfl (hb hby own_d30_0) rfl (XS.aloadN X0.here hx rfl (hb hby own_d30_1) rfl rfl k)) ?_
  show G (s₁.setTop (mkF m 2 #[r' t, i' (Int32.ofNat jn)] [(.ref t), (.int (Int32.ofNat jn))]))
  obtain ⟨cl101, Ar101, q101, S101, M101, H101, U101⟩ := id At
  refine go _ _ (fun _ k => X0.arraylength hx (by rw [e0]; exact Ar101.1) (State.isArrayOf_alike hZ.alike Ar101.2.1) (g := (mkF m 2 #[r' t, i' (Int32.ofNat jn)] [(.ref t), (.int (Int32.ofNat jn))])) rfl rfl (hb hby own_d30_2) _ k) ?_
  show G (s₁.setTop (mkF m 3 #[r' t, i' (Int32.ofNat jn)] [(.int cl101.slots.size.toInt32), (.int (Int32.ofNat jn))]))
  rw [len_of S101 M101]
  show G (s₁.setTop (mkF m 3 #[r' t, i' (Int32.ofNat jn)] [(.int (own_n xs)), (.int (Int32.ofNat jn))]))
  obtain ⟨rv102, T102, L102, X102, q102, st102⟩ := own_st X0 hx hZ (y := (⟨"java/lang/String", "checkIndex", "(II)V"⟩ : MethodName)) hown (ow hw 164 rfl) (ow hw 165 rfl) (ow hw 5 rfl) (ow hw 166 rfl) (by decide) (own_bkN (W := 0) (rm31 l Z a0 hw z0 fm0 gl [] (Int32.ofNat jn) (own_n xs) h0 n0 Z0 Xo (own_jz (n := jn) (by omega)) (own_jlt2 (n := jn) (k := xs.length) (by omega) (by omega))) hZ (ow hw 166 rfl) (ow hw 5 rfl) (by decide) (by decide)) e0 (g := (mkF m 3 #[r' t, i' (Int32.ofNat jn)] [(.int (own_n xs)), (.int (Int32.ofNat jn))])) rfl (by rw [hml]; rfl) (argsL := [(.int (Int32.ofNat jn)), (.int (own_n xs))]) (rest := []) rfl (lenOf own_pd2 rfl) rfl (by show 2 * 0 + _ ≤ _; exact Nat.le_of_eq rfl) (hb hby own_d30_3) (by decide) (by decide)
  obtain ⟨Nq102, e102, rfl⟩ := q102
  have N102 := Fr.app N0 Nq102
  refine go _ _ (st102) ?_
  show G (T102.setTop (mkF m 6 #[r' t, i' (Int32.ofNat jn)] []))
  refine go _ _ (fun _ k => XS.aloadN X102.here hx rfl (hb hby own_d30_6) rfl rfl (XS.iloadN X102.here hx rfl (hb hby own_d30_7) rfl k)) ?_
  show G (T102.setTop (mkF m 8 #[r' t, i' (Int32.ofNat jn)] [(.int (Int32.ofNat jn)), (.ref t)]))
  obtain ⟨cl103, Ar103, q103, S103, M103, H103, U103⟩ := id At
  have ib103 := inb_of (j := (Int32.ofNat jn)) S103 ⟨own_jz (n := jn) (by omega), own_jlt2 hjl (by omega)⟩
  refine go _ _ (fun _ k => X102.baloadBytes hx (j := (Int32.ofNat jn)) (v := .int (z.toInt8.toInt32)) (by rw [e102]; exact Ar103.1) (State.isArrayOf_alike hZ.alike Ar103.2.1) Ar103.2.2 ib103 (Has.at H103 ib103 (own_bs_gD hz (by omega))) (g := (mkF m 8 #[r' t, i' (Int32.ofNat jn)] [(.int (Int32.ofNat jn)), (.ref t)])) rfl rfl (hb hby own_d30_8) _ k) ?_
  show G (T102.setTop (mkF m 9 #[r' t, i' (Int32.ofNat jn)] [(.int (z.toInt8.toInt32))]))
  refine go _ _ (fun _ k => XS.sipush X102.here hx rfl (hb hby own_d30_9) (XS.iand X102.here hx rfl (hb hby own_d30_12) rfl (XS.i2c X102.here hx rfl (hb hby own_d30_13) rfl k))) ?_
  show G (T102.setTop (mkF m 14 #[r' t, i' (Int32.ofNat jn)] [(.int (((z.toInt8.toInt32) &&& (255 : Int32)).toUInt32.toUInt16.toUInt32.toInt32))]))
  rw [(own_l8 (own_bdz hbx hz).1 (own_b8z hb8 hz))]
  show G (T102.setTop (mkF m 14 #[r' t, i' (Int32.ofNat jn)] [(.int z)]))
  refine fin T102 _ _ _ (some (.int (nar .char z))) X102 (fun q => nomatch q) (by decide) (by decide) (by rw [e102]; exact ⟨N102, rfl, (congrArg (fun z => some (Value.int z)) (own_nar16 (own_bdz hbx hz).1 (own_bdz hbx hz).2))⟩) _ (own_retN X102 hx (z := z) (t := .char) hret (by simp) (hb hby own_d30_14))
theorem own_d56_0 : decode jdk_52_method_83_code 0 = .ok (.iload_n 1, 1) := by decide +kernel
theorem own_d56_1 : decode jdk_52_method_83_code 1 = .ok (.aload_n 0, 1) := by decide +kernel
theorem own_d56_2 : decode jdk_52_method_83_code 2 = .ok (.invokestatic 67, 3) := by decide +kernel
theorem own_d56_5 : decode jdk_52_method_83_code 5 = .ok (.aload_n 0, 1) := by decide +kernel
theorem own_d56_6 : decode jdk_52_method_83_code 6 = .ok (.iload_n 1, 1) := by decide +kernel
theorem own_pd7 : parseMethodDescriptor "([BI)C" = some ⟨[(.array .byte), .int], some .char⟩ := by decide +kernel
theorem own_d56_7 : decode jdk_52_method_83_code 7 = .ok (.invokestatic 71, 3) := by decide +kernel
theorem own_d56_10 : decode jdk_52_method_83_code 10 = .ok (.ireturn, 1) := by decide +kernel
set_option maxHeartbeats 4000000 in
theorem own_ef_rm56 (m : MethodId) (x0 : Addr) (x1 : Int32) : entryFrame m #[(.ref x0), (.int x1)] 2 = mkF m 0 #[.val (.ref x0), .val (.int x1)] [] := by rfl
set_option maxRecDepth 65536 in
set_option maxHeartbeats 40000000 in
theorem rm56 (l : Launch) (Z : State) (a0 : Array Value) (hw : ∀ d ∈ tables_1, d.before a0 Z = true) (z0 : Int32) (fm0 : Value) (gl : own_Gl Z z0 fm0) (ws : List Jvm.Cond) (t : Addr) (i : Int32) (kb : ClassId) (xs : List Int32) (jn : Nat) (z : Int32) (h0 : Heap) (n0 : Nat) (Z0 : n0 ≤ h0.size) (Xo : Old Z n0 h0) (At : Arv Z h0 t kb .byte (own_n2 xs) (own_u xs) (.int (0 : Int32))) (hj : i = (Int32.ofNat jn)) (hz : xs[jn]? = some z) (hbx : own_bd xs) (hlx : xs.length ≤ 4000) :
    own_MetN l Z (⟨"java/lang/StringUTF16", "charAt", "([BI)C"⟩ : MethodName) jdk_52_method_83_code 2 (some .char) ws ({ frames := 3, cells := 0, slots := 0, locals := 40 } : Room) #[(.ref t), (.int i)] h0 (fun v h L => Fr n0 L ∧ h = h0 ∧ (((v = some (.int z))))) := by
  refine own_metN (plainFor_of_name own_pn3) ?_
  intro p e s m below meth c s₁ G hx hby hml hZ hown hnm hret X0 e0 go fin
  obtain ⟨O2, P5, O4, R4, O_ad, O_hi, O_lo⟩ := id gl
  have N0 := Fr.nil n0
  refine go _ _ (fun _ k => castTop (own_ef_rm56 m t i) k) ?_
  show G (s₁.setTop (mkF m 0 #[r' t, i' i] []))
  subst hj
  show G (s₁.setTop (mkF m 0 #[r' t, i' (Int32.ofNat jn)] []))
  have hjl : jn < xs.length := own_gl hz
  refine go _ _ (fun _ k => XS.iloadN X0.here hx rfl (hb hby own_d56_0) rfl (XS.aloadN X0.here hx rfl (hb hby own_d56_1) rfl rfl k)) ?_
  obtain ⟨rv101, T101, L101, X101, q101, st101⟩ := own_st X0 hx hZ (y := (⟨"java/lang/StringUTF16", "checkIndex", "(I[B)V"⟩ : MethodName)) hown (ow hw 250 rfl) (ow hw 251 rfl) (ow hw 196 rfl) (ow hw 252 rfl) (by decide) (own_bkN (W := 0) (rmUcB l Z a0 hw z0 fm0 gl [] (Int32.ofNat jn) t kb xs h0 n0 Z0 Xo At hlx (own_jz (n := jn) (by omega)) (own_jlt2 (n := jn) (k := xs.length) (by omega) (by omega))) hZ (ow hw 252 rfl) (ow hw 196 rfl) (by decide) (by decide)) e0 (g := (mkF m 2 #[r' t, i' (Int32.ofNat jn)] [(.ref t), (.int (Int32.ofNat jn))])) rfl (by rw [hml]; rfl) (argsL := [(.int (Int32.ofNat jn)), (.ref t)]) (rest := []) rfl (lenOf own_pd5 rfl) rfl (by show 2 * 0 + _ ≤ _; exact Nat.le_of_eq rfl) (hb hby own_d56_2) (by decide) (by decide)
  obtain ⟨Nq101, e101, rfl⟩ := q101
  have N101 := Fr.app N0 Nq101
  refine go _ _ (st101) ?_
  show G (T101.setTop (mkF m 5 #[r' t, i' (Int32.ofNat jn)] []))
  refine go _ _ (fun _ k => XS.aloadN X101.here hx rfl (hb hby own_d56_5) rfl rfl (XS.iloadN X101.here hx rfl (hb hby own_d56_6) rfl k)) ?_
  obtain ⟨rv102, T102, L102, X102, q102, st102⟩ := own_st X101 hx hZ (y := (⟨"java/lang/StringUTF16", "getChar", "([BI)C"⟩ : MethodName)) hown (ow hw 217 rfl) (ow hw 218 rfl) (ow hw 196 rfl) (ow hw 219 rfl) (by decide) (own_bkN (W := 0) (rm45 l Z a0 hw z0 fm0 gl [] t (Int32.ofNat jn) kb (own_n2 xs) xs jn z h0 n0 Z0 Xo At rfl hz hbx hlx (own_c2 (by omega))) hZ (ow hw 219 rfl) (ow hw 196 rfl) (by decide) (by decide)) e101 (g := (mkF m 7 #[r' t, i' (Int32.ofNat jn)] [(.int (Int32.ofNat jn)), (.ref t)])) rfl (by rw [hml]; rfl) (argsL := [(.ref t), (.int (Int32.ofNat jn))]) (rest := []) rfl (lenOf own_pd7 rfl) rfl (by show 2 * 0 + _ ≤ _; exact Nat.le_of_eq rfl) (hb hby own_d56_7) (by decide) (by decide)
  obtain ⟨Nq102, e102, rfl⟩ := q102
  have N102 := Fr.app N101 Nq102
  refine go _ _ (st102) ?_
  show G (T102.setTop (mkF m 10 #[r' t, i' (Int32.ofNat jn)] [(.int z)]))
  refine fin T102 _ _ _ (some (.int (nar .char z))) X102 (fun q => nomatch q) (by decide) (by decide) (by rw [e102]; exact ⟨N102, rfl, (congrArg (fun z => some (Value.int z)) (own_nar16 (own_bdz hbx hz).1 (own_bdz hbx hz).2))⟩) _ (own_retN X102 hx (z := z) (t := .char) hret (by simp) (hb hby own_d56_10))
theorem own_d28_0 : decode jdk_42_method_56_code 0 = .ok (.aload_n 0, 1) := by decide +kernel
theorem own_pd8 : parseMethodDescriptor "()Z" = some ⟨[], some .boolean⟩ := by decide +kernel
theorem own_d28_1 : decode jdk_42_method_56_code 1 = .ok (.invokevirtual 492, 3) := by decide +kernel
theorem own_d28_4 : decode jdk_42_method_56_code 4 = .ok (.ifCond .eq 12, 3) := by decide +kernel
theorem own_d28_7 : decode jdk_42_method_56_code 7 = .ok (.aload_n 0, 1) := by decide +kernel
theorem own_d28_8 : decode jdk_42_method_56_code 8 = .ok (.getfield 9, 3) := by decide +kernel
theorem own_d28_11 : decode jdk_42_method_56_code 11 = .ok (.iload_n 1, 1) := by decide +kernel
theorem own_d28_12 : decode jdk_42_method_56_code 12 = .ok (.invokestatic 495, 3) := by decide +kernel
theorem own_d28_15 : decode jdk_42_method_56_code 15 = .ok (.ireturn, 1) := by decide +kernel
theorem own_d28_16 : decode jdk_42_method_56_code 16 = .ok (.aload_n 0, 1) := by decide +kernel
theorem own_d28_17 : decode jdk_42_method_56_code 17 = .ok (.getfield 9, 3) := by decide +kernel
theorem own_d28_20 : decode jdk_42_method_56_code 20 = .ok (.iload_n 1, 1) := by decide +kernel
theorem own_d28_21 : decode jdk_42_method_56_code 21 = .ok (.invokestatic 498, 3) := by decide +kernel
theorem own_d28_24 : decode jdk_42_method_56_code 24 = .ok (.ireturn, 1) := by decide +kernel
set_option maxHeartbeats 4000000 in
theorem own_ef_rm28 (m : MethodId) (x0 : Addr) (x1 : Int32) : entryFrame m #[(.ref x0), (.int x1)] 2 = mkF m 0 #[.val (.ref x0), .val (.int x1)] [] := by rfl
set_option maxRecDepth 65536 in
set_option maxHeartbeats 40000000 in
theorem rm28 (l : Launch) (Z : State) (a0 : Array Value) (hw : ∀ d ∈ tables_1, d.before a0 Z = true) (z0 : Int32) (fm0 : Value) (gl : own_Gl Z z0 fm0) (ws : List Jvm.Cond) (q : Addr) (i : Int32) (ds : List Int32) (jn : Nat) (z : Int32) (h0 : Heap) (n0 : Nat) (Z0 : n0 ≤ h0.size) (Xo : Old Z n0 h0) (Sq : own_S Z h0 q ds) (hj : i = (Int32.ofNat jn)) (hz : ds[jn]? = some z) :
    own_MetN l Z (⟨"java/lang/String", "charAt", "(I)C"⟩ : MethodName) jdk_42_method_56_code 2 (some .char) ws ({ frames := 4, cells := 0, slots := 0, locals := 53 } : Room) #[(.ref q), (.int i)] h0 (fun v h L => Fr n0 L ∧ h = h0 ∧ (((v = some (.int z))))) := by
  refine own_metN (plainFor_of_name own_pn0) ?_
  intro p e s m below meth c s₁ G hx hby hml hZ hown hnm hret X0 e0 go fin
  obtain ⟨O2, P5, O4, R4, O_ad, O_hi, O_lo⟩ := id gl
  have N0 := Fr.nil n0
  refine go _ _ (fun _ k => castTop (own_ef_rm28 m q i) k) ?_
  show G (s₁.setTop (mkF m 0 #[r' q, i' i] []))
  subst hj
  show G (s₁.setTop (mkF m 0 #[r' q, i' (Int32.ofNat jn)] []))
  have hbx := own_S_bd Sq
  obtain ⟨to101, kq101, Es101, Vs101, bd101, ln101, cq101⟩ := id Sq
  rcases cq101 with ⟨Cs101, As101, be101⟩ | ⟨Cs101, As101⟩
  · refine go _ _ (fun _ k => XS.aloadN X0.here hx rfl (hb hby own_d28_0) rfl rfl k) ?_
    obtain ⟨rv102, T102, L102, X102, q102, st102⟩ := own_vi X0 hx hZ (y := (⟨"java/lang/String", "isLatin1", "()Z"⟩ : MethodName)) (z := (⟨"java/lang/String", "isLatin1", "()Z"⟩ : MethodName)) hown (ow hw 156 rfl) (ow hw 157 rfl) (ow hw 159 rfl) (ow hw 158 rfl) (Or.inl rfl) (by decide) (own_bkN (W := 0) (rmIl0 l Z a0 hw z0 fm0 gl [] q h0 n0 Z0 Xo Cs101) hZ (ow hw 160 rfl) (ow hw 5 rfl) (by decide) (by decide)) e0 Es101 (g := (mkF m 1 #[r' q, i' (Int32.ofNat jn)] [(.ref q)])) rfl (by rw [hml]; rfl) (argsL := []) (rest := []) rfl (lenOf own_pd8 rfl) rfl (by show 2 * 0 + _ ≤ _; exact Nat.le_of_eq rfl) (hb hby own_d28_1) (by decide) (by decide)
    obtain ⟨Nq102, e102, rfl⟩ := q102
    have N102 := Fr.app N0 Nq102
    refine go _ _ (st102) ?_
    show G (T102.setTop (mkF m 4 #[r' q, i' (Int32.ofNat jn)] [(.int 1)]))
    refine go _ _ (fun _ k => XS.ifNo X102.here hx rfl (hb hby own_d28_4) rfl (by decide) k) ?_
    show G (T102.setTop (mkF m 7 #[r' q, i' (Int32.ofNat jn)] []))
    refine go _ _ (fun _ k => XS.aloadN X102.here hx rfl (hb hby own_d28_7) rfl rfl k) ?_
    obtain ⟨T103, X103, e103, st103⟩ := getF X102 hx hZ hown (host := "") (Or.inl (ow hw 51 rfl)) Via.refl e102 Vs101 (g := (mkF m 8 #[r' q, i' (Int32.ofNat jn)] [(.ref q)])) rfl rfl (hb hby own_d28_8)
    refine go _ _ (st103) ?_
    show G (T103.setTop (mkF m 11 #[r' q, i' (Int32.ofNat jn)] [(.ref to101)]))
    refine go _ _ (fun _ k => XS.iloadN X103.here hx rfl (hb hby own_d28_11) rfl k) ?_
    obtain ⟨rv104, T104, L104, X104, q104, st104⟩ := own_st X103 hx hZ (y := (⟨"java/lang/StringLatin1", "charAt", "([BI)C"⟩ : MethodName)) hown (ow hw 161 rfl) (ow hw 162 rfl) (ow hw 102 rfl) (ow hw 163 rfl) (by decide) (own_bkN (W := 0) (rm30 l Z a0 hw z0 fm0 gl [] to101 (Int32.ofNat jn) kq101 ds jn z h0 n0 Z0 Xo As101 rfl hz bd101 ln101 be101) hZ (ow hw 163 rfl) (ow hw 102 rfl) (by decide) (by decide)) e103 (g := (mkF m 12 #[r' q, i' (Int32.ofNat jn)] [(.int (Int32.ofNat jn)), (.ref to101)])) rfl (by rw [hml]; rfl) (argsL := [(.ref to101), (.int (Int32.ofNat jn))]) (rest := []) rfl (lenOf own_pd7 rfl) rfl (by show 2 * 0 + _ ≤ _; exact Nat.le_of_eq rfl) (hb hby own_d28_12) (by decide) (by decide)
    obtain ⟨Nq104, e104, rfl⟩ := q104
    have N104 := Fr.app N102 Nq104
    refine go _ _ (st104) ?_
    show G (T104.setTop (mkF m 15 #[r' q, i' (Int32.ofNat jn)] [(.int z)]))
    refine fin T104 _ _ _ (some (.int (nar .char z))) X104 (fun q => nomatch q) (by decide) (by decide) (by rw [e104]; exact ⟨N104, rfl, (congrArg (fun z => some (Value.int z)) (own_nar16 (own_bdz hbx hz).1 (own_bdz hbx hz).2))⟩) _ (own_retN X104 hx (z := z) (t := .char) hret (by simp) (hb hby own_d28_15))
  · refine go _ _ (fun _ k => XS.aloadN X0.here hx rfl (hb hby own_d28_0) rfl rfl k) ?_
    obtain ⟨rv105, T105, L105, X105, q105, st105⟩ := own_vi X0 hx hZ (y := (⟨"java/lang/String", "isLatin1", "()Z"⟩ : MethodName)) (z := (⟨"java/lang/String", "isLatin1", "()Z"⟩ : MethodName)) hown (ow hw 156 rfl) (ow hw 157 rfl) (ow hw 159 rfl) (ow hw 158 rfl) (Or.inl rfl) (by decide) (own_bkN (W := 0) (rmIl1 l Z a0 hw z0 fm0 gl [] q h0 n0 Z0 Xo Cs101) hZ (ow hw 160 rfl) (ow hw 5 rfl) (by decide) (by decide)) e0 Es101 (g := (mkF m 1 #[r' q, i' (Int32.ofNat jn)] [(.ref q)])) rfl (by rw [hml]; rfl) (argsL := []) (rest := []) rfl (lenOf own_pd8 rfl) rfl (by show 2 * 0 + _ ≤ _; exact Nat.le_of_eq rfl) (hb hby own_d28_1) (by decide) (by decide)
    obtain ⟨Nq105, e105, rfl⟩ := q105
    have N105 := Fr.app N0 Nq105
    refine go _ _ (st105) ?_
    show G (T105.setTop (mkF m 4 #[r' q, i' (Int32.ofNat jn)] [(.int 0)]))
    refine go _ _ (fun _ k => XS.ifYes X105.here hx rfl (pc0 := 4) (pc' := 16) rfl (hb hby own_d28_4) rfl (by decide) (by decide) (by decide) k) ?_
    show G (T105.setTop (mkF m 16 #[r' q, i' (Int32.ofNat jn)] []))
    refine go _ _ (fun _ k => XS.aloadN X105.here hx rfl (hb hby own_d28_16) rfl rfl k) ?_
    obtain ⟨T106, X106, e106, st106⟩ := getF X105 hx hZ hown (host := "") (Or.inl (ow hw 51 rfl)) Via.refl e105 Vs101 (g := (mkF m 17 #[r' q, i' (Int32.ofNat jn)] [(.ref q)])) rfl rfl (hb hby own_d28_17)
    refine go _ _ (st106) ?_
    show G (T106.setTop (mkF m 20 #[r' q, i' (Int32.ofNat jn)] [(.ref to101)]))
    refine go _ _ (fun _ k => XS.iloadN X106.here hx rfl (hb hby own_d28_20) rfl k) ?_
    obtain ⟨rv107, T107, L107, X107, q107, st107⟩ := own_st X106 hx hZ (y := (⟨"java/lang/StringUTF16", "charAt", "([BI)C"⟩ : MethodName)) hown (ow hw 257 rfl) (ow hw 258 rfl) (ow hw 196 rfl) (ow hw 259 rfl) (by decide) (own_bkN (W := 0) (rm56 l Z a0 hw z0 fm0 gl [] to101 (Int32.ofNat jn) kq101 ds jn z h0 n0 Z0 Xo As101 rfl hz bd101 ln101) hZ (ow hw 259 rfl) (ow hw 196 rfl) (by decide) (by decide)) e106 (g := (mkF m 21 #[r' q, i' (Int32.ofNat jn)] [(.int (Int32.ofNat jn)), (.ref to101)])) rfl (by rw [hml]; rfl) (argsL := [(.ref to101), (.int (Int32.ofNat jn))]) (rest := []) rfl (lenOf own_pd7 rfl) rfl (by show 2 * 0 + _ ≤ _; exact Nat.le_of_eq rfl) (hb hby own_d28_21) (by decide) (by decide)
    obtain ⟨Nq107, e107, rfl⟩ := q107
    have N107 := Fr.app N105 Nq107
    refine go _ _ (st107) ?_
    show G (T107.setTop (mkF m 24 #[r' q, i' (Int32.ofNat jn)] [(.int z)]))
    refine fin T107 _ _ _ (some (.int (nar .char z))) X107 (fun q => nomatch q) (by decide) (by decide) (by rw [e107]; exact ⟨N107, rfl, (congrArg (fun z => some (Value.int z)) (own_nar16 (own_bdz hbx hz).1 (own_bdz hbx hz).2))⟩) _ (own_retN X107 hx (z := z) (t := .char) hret (by simp) (hb hby own_d28_24))
theorem own_d7_0 : decode jdk_42_method_54_code 0 = .ok (.aload_n 0, 1) := by decide +kernel
theorem own_d7_1 : decode jdk_42_method_54_code 1 = .ok (.getfield 9, 3) := by decide +kernel
theorem own_d7_4 : decode jdk_42_method_54_code 4 = .ok (.arraylength, 1) := by decide +kernel
theorem own_d7_5 : decode jdk_42_method_54_code 5 = .ok (.aload_n 0, 1) := by decide +kernel
theorem own_pd9 : parseMethodDescriptor "()B" = some ⟨[], some .byte⟩ := by decide +kernel
theorem own_d7_6 : decode jdk_42_method_54_code 6 = .ok (.invokevirtual 335, 3) := by decide +kernel
theorem own_d7_9 : decode jdk_42_method_54_code 9 = .ok (.ishr, 1) := by decide +kernel
theorem own_d7_10 : decode jdk_42_method_54_code 10 = .ok (.ireturn, 1) := by decide +kernel
set_option maxHeartbeats 4000000 in
theorem own_ef_rm7 (m : MethodId) (x0 : Addr) : entryFrame m #[(.ref x0)] 1 = mkF m 0 #[.val (.ref x0)] [] := by rfl
set_option maxRecDepth 65536 in
set_option maxHeartbeats 40000000 in
theorem rm7 (l : Launch) (Z : State) (a0 : Array Value) (hw : ∀ d ∈ tables_1, d.before a0 Z = true) (z0 : Int32) (fm0 : Value) (gl : own_Gl Z z0 fm0) (ws : List Jvm.Cond) (q : Addr) (ds : List Int32) (h0 : Heap) (n0 : Nat) (Z0 : n0 ≤ h0.size) (Xo : Old Z n0 h0) (Sq : own_S Z h0 q ds) :
    own_MetN l Z (⟨"java/lang/String", "length", "()I"⟩ : MethodName) jdk_42_method_54_code 1 (some .int) ws ({ frames := 1, cells := 0, slots := 0, locals := 13 } : Room) #[(.ref q)] h0 (fun v h L => Fr n0 L ∧ h = h0 ∧ (((v = some (.int (own_n ds)))))) := by
  refine own_metN (plainFor_of_name own_pn0) ?_
  intro p e s m below meth c s₁ G hx hby hml hZ hown hnm hret X0 e0 go fin
  obtain ⟨O2, P5, O4, R4, O_ad, O_hi, O_lo⟩ := id gl
  have N0 := Fr.nil n0
  refine go _ _ (fun _ k => castTop (own_ef_rm7 m q) k) ?_
  show G (s₁.setTop (mkF m 0 #[r' q] []))
  obtain ⟨to101, kq101, Es101, Vs101, bd101, ln101, cq101⟩ := id Sq
  rcases cq101 with ⟨Cs101, As101, be101⟩ | ⟨Cs101, As101⟩
  · refine go _ _ (fun _ k => XS.aloadN X0.here hx rfl (hb hby own_d7_0) rfl rfl k) ?_
    obtain ⟨T102, X102, e102, st102⟩ := getF X0 hx hZ hown (host := "") (Or.inl (ow hw 51 rfl)) Via.refl e0 Vs101 (g := (mkF m 1 #[r' q] [(.ref q)])) rfl rfl (hb hby own_d7_1)
    refine go _ _ (st102) ?_
    show G (T102.setTop (mkF m 4 #[r' q] [(.ref to101)]))
    obtain ⟨cl103, Ar103, q103, S103, M103, H103, U103⟩ := id As101
    refine go _ _ (fun _ k => X102.arraylength hx (by rw [e102]; exact Ar103.1) (State.isArrayOf_alike hZ.alike Ar103.2.1) (g := (mkF m 4 #[r' q] [(.ref to101)])) rfl rfl (hb hby own_d7_4) _ k) ?_
    show G (T102.setTop (mkF m 5 #[r' q] [(.int cl103.slots.size.toInt32)]))
    rw [len_of S103 M103]
    show G (T102.setTop (mkF m 5 #[r' q] [(.int (own_n ds))]))
    refine go _ _ (fun _ k => XS.aloadN X102.here hx rfl (hb hby own_d7_5) rfl rfl k) ?_
    obtain ⟨rv104, T104, L104, X104, q104, st104⟩ := own_vi X102 hx hZ (y := (⟨"java/lang/String", "coder", "()B"⟩ : MethodName)) (z := (⟨"java/lang/String", "coder", "()B"⟩ : MethodName)) hown (ow hw 52 rfl) (ow hw 53 rfl) (ow hw 55 rfl) (ow hw 54 rfl) (Or.inl rfl) (by decide) (own_bkN (W := 1) (rmCo0 l Z a0 hw z0 fm0 gl [] q h0 n0 Z0 Xo Cs101) hZ (ow hw 56 rfl) (ow hw 5 rfl) (by decide) (by decide)) e102 Es101 (g := (mkF m 6 #[r' q] [(.ref q), (.int (own_n ds))])) rfl (by rw [hml]; rfl) (argsL := []) (rest := [(.int (own_n ds))]) rfl (lenOf own_pd9 rfl) rfl (by show 2 * 0 + _ ≤ _; exact Nat.le_of_eq rfl) (hb hby own_d7_6) (by decide) (by decide)
    obtain ⟨Nq104, e104, rfl⟩ := q104
    have N104 := Fr.app N0 Nq104
    refine go _ _ (st104) ?_
    show G (T104.setTop (mkF m 9 #[r' q] [(.int 0), (.int (own_n ds))]))
    refine go _ _ (fun _ k => XS.ishr X104.here hx rfl (hb hby own_d7_9) rfl k) ?_
    show G (T104.setTop (mkF m 10 #[r' q] [(.int ((own_n ds) >>> ((0 : Int32) &&& 31)))]))
    rw [own_shr0]
    show G (T104.setTop (mkF m 10 #[r' q] [(.int (own_n ds))]))
    refine fin T104 _ _ _ (some (.int (own_n ds))) X104 (fun q => nomatch q) (by decide) (by decide) (by rw [e104]; exact ⟨N104, rfl, rfl⟩) _ (own_retI X104 hx hret (hb hby own_d7_10))
  · refine go _ _ (fun _ k => XS.aloadN X0.here hx rfl (hb hby own_d7_0) rfl rfl k) ?_
    obtain ⟨T105, X105, e105, st105⟩ := getF X0 hx hZ hown (host := "") (Or.inl (ow hw 51 rfl)) Via.refl e0 Vs101 (g := (mkF m 1 #[r' q] [(.ref q)])) rfl rfl (hb hby own_d7_1)
    refine go _ _ (st105) ?_
    show G (T105.setTop (mkF m 4 #[r' q] [(.ref to101)]))
    obtain ⟨cl106, Ar106, q106, S106, M106, H106, U106⟩ := id As101
    refine go _ _ (fun _ k => X105.arraylength hx (by rw [e105]; exact Ar106.1) (State.isArrayOf_alike hZ.alike Ar106.2.1) (g := (mkF m 4 #[r' q] [(.ref to101)])) rfl rfl (hb hby own_d7_4) _ k) ?_
    show G (T105.setTop (mkF m 5 #[r' q] [(.int cl106.slots.size.toInt32)]))
    rw [len_of S106 M106]
    show G (T105.setTop (mkF m 5 #[r' q] [(.int (own_n2 ds))]))
    refine go _ _ (fun _ k => XS.aloadN X105.here hx rfl (hb hby own_d7_5) rfl rfl k) ?_
    obtain ⟨rv107, T107, L107, X107, q107, st107⟩ := own_vi X105 hx hZ (y := (⟨"java/lang/String", "coder", "()B"⟩ : MethodName)) (z := (⟨"java/lang/String", "coder", "()B"⟩ : MethodName)) hown (ow hw 52 rfl) (ow hw 53 rfl) (ow hw 55 rfl) (ow hw 54 rfl) (Or.inl rfl) (by decide) (own_bkN (W := 1) (rmCo1 l Z a0 hw z0 fm0 gl [] q h0 n0 Z0 Xo Cs101) hZ (ow hw 56 rfl) (ow hw 5 rfl) (by decide) (by decide)) e105 Es101 (g := (mkF m 6 #[r' q] [(.ref q), (.int (own_n2 ds))])) rfl (by rw [hml]; rfl) (argsL := []) (rest := [(.int (own_n2 ds))]) rfl (lenOf own_pd9 rfl) rfl (by show 2 * 0 + _ ≤ _; exact Nat.le_of_eq rfl) (hb hby own_d7_6) (by decide) (by decide)
    obtain ⟨Nq107, e107, rfl⟩ := q107
    have N107 := Fr.app N0 Nq107
    refine go _ _ (st107) ?_
    show G (T107.setTop (mkF m 9 #[r' q] [(.int 1), (.int (own_n2 ds))]))
    refine go _ _ (fun _ k => XS.ishr X107.here hx rfl (hb hby own_d7_9) rfl k) ?_
    show G (T107.setTop (mkF m 10 #[r' q] [(.int ((own_n2 ds) >>> ((1 : Int32) &&& 31)))]))
    rw [(own_shr2 (own_S_len Sq))]
    show G (T107.setTop (mkF m 10 #[r' q] [(.int (own_n ds))]))
    refine fin T107 _ _ _ (some (.int (own_n ds))) X107 (fun q => nomatch q) (by decide) (by decide) (by rw [e107]; exact ⟨N107, rfl, rfl⟩) _ (own_retI X107 hx hret (hb hby own_d7_10))
theorem own_d43_0 : decode jdk_52_method_3_code 0 = .ok (.iload_n 0, 1) := by decide +kernel
theorem own_d43_1 : decode jdk_52_method_3_code 1 = .ok (.ifCond .ge 11, 3) := by decide +kernel
theorem own_d43_12 : decode jdk_52_method_3_code 12 = .ok (.iload_n 0, 1) := by decide +kernel
theorem own_d43_13 : decode jdk_52_method_3_code 13 = .ok (.ldc 20, 2) := by decide +kernel
theorem own_d43_15 : decode jdk_52_method_3_code 15 = .ok (.if_icmp .lt 40, 3) := by decide +kernel
theorem own_d43_55 : decode jdk_52_method_3_code 55 = .ok (.iload_n 0, 1) := by decide +kernel
theorem own_d43_56 : decode jdk_52_method_3_code 56 = .ok (.iconst 1, 1) := by decide +kernel
theorem own_d43_57 : decode jdk_52_method_3_code 57 = .ok (.ishl, 1) := by decide +kernel
theorem own_d43_58 : decode jdk_52_method_3_code 58 = .ok (.ireturn, 1) := by decide +kernel
set_option maxHeartbeats 4000000 in
theorem own_ef_rmNL2 (m : MethodId) (x0 : Int32) : entryFrame m #[(.int x0)] 1 = mkF m 0 #[.val (.int x0)] [] := by rfl
set_option maxRecDepth 65536 in
set_option maxHeartbeats 40000000 in
theorem rmNL2 (l : Launch) (Z : State) (a0 : Array Value) (hw : ∀ d ∈ tables_1, d.before a0 Z = true) (z0 : Int32) (fm0 : Value) (gl : own_Gl Z z0 fm0) (ws : List Jvm.Cond) (h0 : Heap) (n0 : Nat) (Z0 : n0 ≤ h0.size) :
    own_MetN l Z (⟨"java/lang/StringUTF16", "newBytesLength", "(I)I"⟩ : MethodName) jdk_52_method_3_code 1 (some .int) ws ({ frames := 0, cells := 0, slots := 0, locals := 0 } : Room) #[(.int (2 : Int32))] h0 (fun v h L => Fr n0 L ∧ h = h0 ∧ (((v = some (.int (4 : Int32)))))) := by
  refine own_metN (plainFor_of_name own_pn3) ?_
  intro p e s m below meth c s₁ G hx hby hml hZ hown hnm hret X0 e0 go fin
  obtain ⟨O2, P5, O4, R4, O_ad, O_hi, O_lo⟩ := id gl
  have N0 := Fr.nil n0
  refine go _ _ (fun _ k => castTop (own_ef_rmNL2 m (2 : Int32)) k) ?_
  show G (s₁.setTop (mkF m 0 #[i' 2] []))
  refine go _ _ (fun _ k => XS.iloadN X0.here hx rfl (hb hby own_d43_0) rfl k) ?_
  show G (s₁.setTop (mkF m 1 #[i' 2] [(.int 2)]))
  refine go _ _ (fun _ k => XS.ifYes X0.here hx rfl (pc0 := 1) (pc' := 12) rfl (hb hby own_d43_1) rfl (by decide) (by decide) (by decide) k) ?_
  show G (s₁.setTop (mkF m 12 #[i' 2] []))
  refine go _ _ (fun _ k => XS.iloadN X0.here hx rfl (hb hby own_d43_12) rfl k) ?_
  show G (s₁.setTop (mkF m 13 #[i' 2] [(.int 2)]))
  refine go _ _ (fun _ k => Stand.ldcInt X0 hx hown (mv hZ (ow hw 210 rfl)) (g := (mkF m 13 #[i' 2] [(.int 2)])) rfl (hb hby own_d43_13) _ k) ?_
  show G (s₁.setTop (mkF m 15 #[i' 2] [(.int 1073741823), (.int 2)]))
  refine go _ _ (fun _ k => XS.icmpYes X0.here hx rfl (pc0 := 15) (pc' := 55) rfl (hb hby own_d43_15) rfl (by decide) (by decide) (by decide) k) ?_
  show G (s₁.setTop (mkF m 55 #[i' 2] []))
  refine go _ _ (fun _ k => XS.iloadN X0.here hx rfl (hb hby own_d43_55) rfl (XS.iconst X0.here hx rfl (hb hby own_d43_56) (XS.ishl X0.here hx rfl (hb hby own_d43_57) rfl k))) ?_
  show G (s₁.setTop (mkF m 58 #[i' 2] [(.int 4)]))
  refine fin s₁ _ _ _ (some (.int (4 : Int32))) X0 (fun q => nomatch q) (by decide) (by decide) (by rw [e0]; exact ⟨N0, rfl, rfl⟩) _ (own_retI X0 hx hret (hb hby own_d43_58))
theorem own_d42_0 : decode jdk_52_method_2_code 0 = .ok (.iload_n 0, 1) := by decide +kernel
theorem own_pd10 : parseMethodDescriptor "(I)I" = some ⟨[.int], some .int⟩ := by decide +kernel
theorem own_d42_1 : decode jdk_52_method_2_code 1 = .ok (.invokestatic 11, 3) := by decide +kernel
theorem own_d42_4 : decode jdk_52_method_2_code 4 = .ok (.newarray .byte, 2) := by decide +kernel
theorem own_d42_6 : decode jdk_52_method_2_code 6 = .ok (.areturn, 1) := by decide +kernel
set_option maxHeartbeats 4000000 in
theorem own_ef_rmNF2 (m : MethodId) (x0 : Int32) : entryFrame m #[(.int x0)] 1 = mkF m 0 #[.val (.int x0)] [] := by rfl
set_option maxRecDepth 65536 in
set_option maxHeartbeats 40000000 in
theorem rmNF2 (l : Launch) (Z : State) (a0 : Array Value) (hw : ∀ d ∈ tables_1, d.before a0 Z = true) (z0 : Int32) (fm0 : Value) (gl : own_Gl Z z0 fm0) (ws : List Jvm.Cond) (h0 : Heap) (n0 : Nat) (Z0 : n0 ≤ h0.size) :
    own_MetN l Z (⟨"java/lang/StringUTF16", "newBytesFor", "(I)[B"⟩ : MethodName) jdk_52_method_2_code 1 (some (.array .byte)) ws ({ frames := 1, cells := 1, slots := 4, locals := 12 } : Room) #[(.int (2 : Int32))] h0 (fun v h L => Fr n0 L ∧ Keep h0 h [] ∧ ((∃ (b : Addr) (kb : ClassId), (v = some (.ref b)) ∧ (h0.size ≤ b) ∧ (Arv Z h b kb .byte (4 : Int32) (own_u ([] : List Int32)) (.int (0 : Int32)))))) := by
  refine own_metN (plainFor_of_name own_pn3) ?_
  intro p e s m below meth c s₁ G hx hby hml hZ hown hnm hret X0 e0 go fin
  obtain ⟨O2, P5, O4, R4, O_ad, O_hi, O_lo⟩ := id gl
  have N0 := Fr.nil n0
  refine go _ _ (fun _ k => castTop (own_ef_rmNF2 m (2 : Int32)) k) ?_
  show G (s₁.setTop (mkF m 0 #[i' 2] []))
  refine go _ _ (fun _ k => XS.iloadN X0.here hx rfl (hb hby own_d42_0) rfl k) ?_
  obtain ⟨rv101, T101, L101, X101, q101, st101⟩ := own_st X0 hx hZ (y := (⟨"java/lang/StringUTF16", "newBytesLength", "(I)I"⟩ : MethodName)) hown (ow hw 207 rfl) (ow hw 208 rfl) (ow hw 196 rfl) (ow hw 209 rfl) (by decide) (own_bkN (W := 0) (rmNL2 l Z a0 hw z0 fm0 gl [] h0 n0 Z0) hZ (ow hw 209 rfl) (ow hw 196 rfl) (by decide) (by decide)) e0 (g := (mkF m 1 #[i' 2] [(.int 2)])) rfl (by rw [hml]; rfl) (argsL := [(.int (2 : Int32))]) (rest := []) rfl (lenOf own_pd10 rfl) rfl (by show 2 * 0 + _ ≤ _; exact Nat.le_of_eq rfl) (hb hby own_d42_1) (by decide) (by decide)
  obtain ⟨Nq101, e101, rfl⟩ := q101
  have N101 := Fr.app N0 Nq101
  refine go _ _ (st101) ?_
  obtain ⟨T102, h102, k102, X102, e102, E102, A102, st102⟩ := newP X101 hx hZ (ow hw 7 rfl) e101 (g := (mkF m 4 #[i' 2] [(.int 4)])) rfl (hb hby own_d42_4) rfl (by decide) (cap := 4) (by decide) (by decide) (by decide) (by decide)
  obtain ⟨b102, g102⟩ : ∃ z, z = h0.size := ⟨_, rfl⟩
  rw [← g102] at A102 st102
  have V102 : Arv Z h102 b102 k102 .byte (4 : Int32) [(.int (0 : Int32)), (.int (0 : Int32)), (.int (0 : Int32)), (.int (0 : Int32))] (.int (0 : Int32)) := (Arv.new A102 (by decide)).pad (pad_rep [] (.int (0 : Int32)) 4)
  refine go _ _ (st102) ?_
  show G (T102.setTop (mkF m 6 #[i' 2] [(.ref b102)]))
  have K103 : Keep h0 h102 [] := (Keep.refl h0 []).ext E102
  refine fin T102 _ _ _ (some (.ref b102)) X102 (fun q => nomatch q) (by decide) (by decide) (by rw [e102]; exact ⟨N101, K103, ⟨b102, k102, rfl, (Nat.le_of_eq g102.symm), (Arv.new A102 (by decide))⟩⟩) _ (own_retA X102 hx hret rfl rfl rfl (hb hby own_d42_6))
set_option maxHeartbeats 4000000 in
theorem own_ef_rmNL16 (m : MethodId) (x0 : Int32) : entryFrame m #[(.int x0)] 1 = mkF m 0 #[.val (.int x0)] [] := by rfl
set_option maxRecDepth 65536 in
set_option maxHeartbeats 40000000 in
theorem rmNL16 (l : Launch) (Z : State) (a0 : Array Value) (hw : ∀ d ∈ tables_1, d.before a0 Z = true) (z0 : Int32) (fm0 : Value) (gl : own_Gl Z z0 fm0) (ws : List Jvm.Cond) (h0 : Heap) (n0 : Nat) (Z0 : n0 ≤ h0.size) :
    own_MetN l Z (⟨"java/lang/StringUTF16", "newBytesLength", "(I)I"⟩ : MethodName) jdk_52_method_3_code 1 (some .int) ws ({ frames := 0, cells := 0, slots := 0, locals := 0 } : Room) #[(.int (16 : Int32))] h0 (fun v h L => Fr n0 L ∧ h = h0 ∧ (((v = some (.int (32 : Int32)))))) := by
  refine own_metN (plainFor_of_name own_pn3) ?_
  intro p e s m below meth c s₁ G hx hby hml hZ hown hnm hret X0 e0 go fin
  obtain ⟨O2, P5, O4, R4, O_ad, O_hi, O_lo⟩ := id gl
  have N0 := Fr.nil n0
  refine go _ _ (fun _ k => castTop (own_ef_rmNL16 m (16 : Int32)) k) ?_
  show G (s₁.setTop (mkF m 0 #[i' 16] []))
  refine go _ _ (fun _ k => XS.iloadN X0.here hx rfl (hb hby own_d43_0) rfl k) ?_
  show G (s₁.setTop (mkF m 1 #[i' 16] [(.int 16)]))
  refine go _ _ (fun _ k => XS.ifYes X0.here hx rfl (pc0 := 1) (pc' := 12) rfl (hb hby own_d43_1) rfl (by decide) (by decide) (by decide) k) ?_
  show G (s₁.setTop (mkF m 12 #[i' 16] []))
  refine go _ _ (fun _ k => XS.iloadN X0.here hx rfl (hb hby own_d43_12) rfl k) ?_
  show G (s₁.setTop (mkF m 13 #[i' 16] [(.int 16)]))
  refine go _ _ (fun _ k => Stand.ldcInt X0 hx hown (mv hZ (ow hw 210 rfl)) (g := (mkF m 13 #[i' 16] [(.int 16)])) rfl (hb hby own_d43_13) _ k) ?_
  show G (s₁.setTop (mkF m 15 #[i' 16] [(.int 1073741823), (.int 16)]))
  refine go _ _ (fun _ k => XS.icmpYes X0.here hx rfl (pc0 := 15) (pc' := 55) rfl (hb hby own_d43_15) rfl (by decide) (by decide) (by decide) k) ?_
  show G (s₁.setTop (mkF m 55 #[i' 16] []))
  refine go _ _ (fun _ k => XS.iloadN X0.here hx rfl (hb hby own_d43_55) rfl (XS.iconst X0.here hx rfl (hb hby own_d43_56) (XS.ishl X0.here hx rfl (hb hby own_d43_57) rfl k))) ?_
  show G (s₁.setTop (mkF m 58 #[i' 16] [(.int 32)]))
  refine fin s₁ _ _ _ (some (.int (32 : Int32))) X0 (fun q => nomatch q) (by decide) (by decide) (by rw [e0]; exact ⟨N0, rfl, rfl⟩) _ (own_retI X0 hx hret (hb hby own_d43_58))
set_option maxHeartbeats 4000000 in
theorem own_ef_rmNF16 (m : MethodId) (x0 : Int32) : entryFrame m #[(.int x0)] 1 = mkF m 0 #[.val (.int x0)] [] := by rfl
set_option maxRecDepth 65536 in
set_option maxHeartbeats 40000000 in
theorem rmNF16 (l : Launch) (Z : State) (a0 : Array Value) (hw : ∀ d ∈ tables_1, d.before a0 Z = true) (z0 : Int32) (fm0 : Value) (gl : own_Gl Z z0 fm0) (ws : List Jvm.Cond) (h0 : Heap) (n0 : Nat) (Z0 : n0 ≤ h0.size) :
    own_MetN l Z (⟨"java/lang/StringUTF16", "newBytesFor", "(I)[B"⟩ : MethodName) jdk_52_method_2_code 1 (some (.array .byte)) ws ({ frames := 1, cells := 1, slots := 32, locals := 12 } : Room) #[(.int (16 : Int32))] h0 (fun v h L => Fr n0 L ∧ Keep h0 h [] ∧ ((∃ (b : Addr) (kb : ClassId), (v = some (.ref b)) ∧ (h0.size ≤ b) ∧ (Arv Z h b kb .byte (32 : Int32) (own_u ([] : List Int32)) (.int (0 : Int32)))))) := by
  refine own_metN (plainFor_of_name own_pn3) ?_
  intro p e s m below meth c s₁ G hx hby hml hZ hown hnm hret X0 e0 go fin
  obtain ⟨O2, P5, O4, R4, O_ad, O_hi, O_lo⟩ := id gl
  have N0 := Fr.nil n0
  refine go _ _ (fun _ k => castTop (own_ef_rmNF16 m (16 : Int32)) k) ?_
  show G (s₁.setTop (mkF m 0 #[i' 16] []))
  refine go _ _ (fun _ k => XS.iloadN X0.here hx rfl (hb hby own_d42_0) rfl k) ?_
  obtain ⟨rv101, T101, L101, X101, q101, st101⟩ := own_st X0 hx hZ (y := (⟨"java/lang/StringUTF16", "newBytesLength", "(I)I"⟩ : MethodName)) hown (ow hw 207 rfl) (ow hw 208 rfl) (ow hw 196 rfl) (ow hw 209 rfl) (by decide) (own_bkN (W := 0) (rmNL16 l Z a0 hw z0 fm0 gl [] h0 n0 Z0) hZ (ow hw 209 rfl) (ow hw 196 rfl) (by decide) (by decide)) e0 (g := (mkF m 1 #[i' 16] [(.int 16)])) rfl (by rw [hml]; rfl) (argsL := [(.int (16 : Int32))]) (rest := []) rfl (lenOf own_pd10 rfl) rfl (by show 2 * 0 + _ ≤ _; exact Nat.le_of_eq rfl) (hb hby own_d42_1) (by decide) (by decide)
  obtain ⟨Nq101, e101, rfl⟩ := q101
  have N101 := Fr.app N0 Nq101
  refine go _ _ (st101) ?_
  obtain ⟨T102, h102, k102, X102, e102, E102, A102, st102⟩ := newP X101 hx hZ (ow hw 7 rfl) e101 (g := (mkF m 4 #[i' 16] [(.int 32)])) rfl (hb hby own_d42_4) rfl (by decide) (cap := 32) (by decide) (by decide) (by decide) (by decide)
  obtain ⟨b102, g102⟩ : ∃ z, z = h0.size := ⟨_, rfl⟩
  rw [← g102] at A102 st102
  have V102 : Arv Z h102 b102 k102 .byte (32 : Int32) [(.int (0 : Int32)), (.int (0 : Int32)), (.int (0 : Int32)), (.int (0 : Int32)), (.int (0 : Int32)), (.int (0 : Int32)), (.int (0 : Int32)), (.int (0 : Int32)), (.int (0 : Int32)), (.int (0 : Int32)), (.int (0 : Int32)), (.int (0 : Int32)), (.int (0 : Int32)), (.int (0 : Int32)), (.int (0 : Int32)), (.int (0 : Int32)), (.int (0 : Int32)), (.int (0 : Int32)), (.int (0 : Int32)), (.int (0 : Int32)), (.int (0 : Int32)), (.int (0 : Int32)), (.int (0 : Int32)), (.int (0 : Int32)), (.int (0 : Int32)), (.int (0 : Int32)), (.int (0 : Int32)), (.int (0 : Int32)), (.int (0 : Int32)), (.int (0 : Int32)), (.int (0 : Int32)), (.int (0 : Int32))] (.int (0 : Int32)) := (Arv.new A102 (by decide)).pad (pad_rep [] (.int (0 : Int32)) 32)
  refine go _ _ (st102) ?_
  show G (T102.setTop (mkF m 6 #[i' 16] [(.ref b102)]))
  have K103 : Keep h0 h102 [] := (Keep.refl h0 []).ext E102
  refine fin T102 _ _ _ (some (.ref b102)) X102 (fun q => nomatch q) (by decide) (by decide) (by rw [e102]; exact ⟨N101, K103, ⟨b102, k102, rfl, (Nat.le_of_eq g102.symm), (Arv.new A102 (by decide))⟩⟩) _ (own_retA X102 hx hret rfl rfl rfl (hb hby own_d42_6))
theorem own_d57_0 : decode jdk_52_method_24_code 0 = .ok (.iconst 2, 1) := by decide +kernel
theorem own_d57_1 : decode jdk_52_method_24_code 1 = .ok (.newarray .byte, 2) := by decide +kernel
theorem own_d57_3 : decode jdk_52_method_24_code 3 = .ok (.astore_n 1, 1) := by decide +kernel
theorem own_d57_4 : decode jdk_52_method_24_code 4 = .ok (.aload_n 1, 1) := by decide +kernel
theorem own_d57_5 : decode jdk_52_method_24_code 5 = .ok (.iconst 0, 1) := by decide +kernel
theorem own_d57_6 : decode jdk_52_method_24_code 6 = .ok (.iload_n 0, 1) := by decide +kernel
theorem own_d57_7 : decode jdk_52_method_24_code 7 = .ok (.invokestatic 111, 3) := by decide +kernel
theorem own_d57_10 : decode jdk_52_method_24_code 10 = .ok (.aload_n 1, 1) := by decide +kernel
theorem own_d57_11 : decode jdk_52_method_24_code 11 = .ok (.areturn, 1) := by decide +kernel
set_option maxHeartbeats 4000000 in
theorem own_ef_rm57 (m : MethodId) (x0 : Int32) : entryFrame m #[(.int x0)] 2 = mkF m 0 #[.val (.int x0), .unset] [] := by rfl
set_option maxRecDepth 65536 in
set_option maxHeartbeats 40000000 in
theorem rm57 (l : Launch) (Z : State) (a0 : Array Value) (hw : ∀ d ∈ tables_1, d.before a0 Z = true) (z0 : Int32) (fm0 : Value) (gl : own_Gl Z z0 fm0) (ws : List Jvm.Cond) (q : Int32) (h0 : Heap) (n0 : Nat) (Z0 : n0 ≤ h0.size) (Xo : Old Z n0 h0) :
    own_MetN l Z (⟨"java/lang/StringUTF16", "toBytes", "(C)[B"⟩ : MethodName) jdk_52_method_24_code 2 (some (.array .byte)) ws ({ frames := 1, cells := 1, slots := 2, locals := 14 } : Room) #[(.int q)] h0 (fun v h L => Fr n0 L ∧ Keep h0 h [] ∧ ((∃ (b : Addr) (kb : ClassId), (v = some (.ref b)) ∧ (h0.size ≤ b) ∧ (Arv Z h b kb .byte (2 : Int32) (own_u ([q] : List Int32)) (.int (0 : Int32)))))) := by
  refine own_metN (plainFor_of_name own_pn3) ?_
  intro p e s m below meth c s₁ G hx hby hml hZ hown hnm hret X0 e0 go fin
  obtain ⟨O2, P5, O4, R4, O_ad, O_hi, O_lo⟩ := id gl
  have N0 := Fr.nil n0
  refine go _ _ (fun _ k => castTop (own_ef_rm57 m q) k) ?_
  show G (s₁.setTop (mkF m 0 #[i' q, u'] []))
  refine go _ _ (fun _ k => XS.iconst X0.here hx rfl (hb hby own_d57_0) k) ?_
  obtain ⟨T101, h101, k101, X101, e101, E101, A101, st101⟩ := newP X0 hx hZ (ow hw 7 rfl) e0 (g := (mkF m 1 #[i' q, u'] [(.int 2)])) rfl (hb hby own_d57_1) rfl (by decide) (cap := 2) (by decide) (by decide) (by decide) (by decide)
  obtain ⟨b101, g101⟩ : ∃ z, z = h0.size := ⟨_, rfl⟩
  rw [← g101] at A101 st101
  have V101 : Arv Z h101 b101 k101 .byte (2 : Int32) [(.int (0 : Int32)), (.int (0 : Int32))] (.int (0 : Int32)) := (Arv.new A101 (by decide)).pad (pad_rep [] (.int (0 : Int32)) 2)
  refine go _ _ (st101) ?_
  show G (T101.setTop (mkF m 3 #[i' q, u'] [(.ref b101)]))
  refine go _ _ (fun _ k => XS.astoreN X101.here hx rfl (hb hby own_d57_3) rfl rfl (l' := #[i' q, r' b101]) rfl (XS.aloadN X101.here hx rfl (hb hby own_d57_4) rfl rfl (XS.iconst X101.here hx rfl (hb hby own_d57_5) (XS.iloadN X101.here hx rfl (hb hby own_d57_6) rfl k)))) ?_
  have K103 : Keep h0 h101 [] := (Keep.refl h0 []).ext E101
  have F104 : Old Z n0 h101 := (Xo.keep K103 all0)
  have Z105 : h0.size ≤ h101.size := E101.1
  obtain ⟨rv102, T102, L102, X102, q102, st102⟩ := own_st X101 hx hZ (y := (⟨"java/lang/StringUTF16", "putChar", "([BII)V"⟩ : MethodName)) hown (ow hw 211 rfl) (ow hw 212 rfl) (ow hw 196 rfl) (ow hw 213 rfl) (by decide) (own_bkN (W := 0) (rm44 l Z a0 hw z0 fm0 gl [] b101 (0 : Int32) q k101 (2 : Int32) ([] : List Int32) h101 n0 (Nat.le_trans Z0 Z105) F104 (Arv.new A101 (by decide)) rfl (show 2 * ([] : List Int32).length + 2 ≤ 2 by simp only [List.length_append, List.length_cons, List.length_nil] <;> omega) (by simp only [List.length_append, List.length_cons, List.length_nil] <;> omega) (Nat.le_trans Z0 (Nat.le_of_eq g101.symm))) hZ (ow hw 213 rfl) (ow hw 196 rfl) (by decide) (by decide)) e101 (g := (mkF m 7 #[i' q, r' b101] [(.int q), (.int 0), (.ref b101)])) rfl (by rw [hml]; rfl) (argsL := [(.ref b101), (.int (0 : Int32)), (.int q)]) (rest := []) rfl (lenOf own_pd6 rfl) rfl (by show 2 * 0 + _ ≤ _; exact Nat.le_of_eq rfl) (hb hby own_d57_7) (by decide) (by decide)
  obtain ⟨Nq102, Kp102, ⟨rfl, f106⟩⟩ := q102
  have N102 := Fr.app N0 Nq102
  refine go _ _ (st102) ?_
  show G (T102.setTop (mkF m 10 #[i' q, r' b101] []))
  refine go _ _ (fun _ k => XS.aloadN X102.here hx rfl (hb hby own_d57_10) rfl rfl k) ?_
  show G (T102.setTop (mkF m 11 #[i' q, r' b101] [(.ref b101)]))
  have K107 : Keep h0 T102.heap [] := K103.trans Kp102 (allS (Or.inr (Nat.le_of_eq g101.symm)) all0)
  refine fin T102 _ _ _ (some (.ref b101)) X102 (fun q => nomatch q) (by decide) (by decide) ⟨N102, K107, ⟨b101, k101, rfl, (Nat.le_of_eq g101.symm), f106⟩⟩ _ (own_retA X102 hx hret rfl rfl rfl (hb hby own_d57_11))
theorem own_d35_0 : decode jdk_43_method_46_code 0 = .ok (.iconst 1, 1) := by decide +kernel
theorem own_d35_1 : decode jdk_43_method_46_code 1 = .ok (.newarray .byte, 2) := by decide +kernel
theorem own_d35_3 : decode jdk_43_method_46_code 3 = .ok (.dup, 1) := by decide +kernel
theorem own_d35_4 : decode jdk_43_method_46_code 4 = .ok (.iconst 0, 1) := by decide +kernel
theorem own_d35_5 : decode jdk_43_method_46_code 5 = .ok (.iload_n 0, 1) := by decide +kernel
theorem own_d35_6 : decode jdk_43_method_46_code 6 = .ok (.i2b, 1) := by decide +kernel
theorem own_d35_7 : decode jdk_43_method_46_code 7 = .ok (.bastore, 1) := by decide +kernel
theorem own_d35_8 : decode jdk_43_method_46_code 8 = .ok (.areturn, 1) := by decide +kernel
set_option maxHeartbeats 4000000 in
theorem own_ef_rm35 (m : MethodId) (x0 : Int32) : entryFrame m #[(.int x0)] 1 = mkF m 0 #[.val (.int x0)] [] := by rfl
set_option maxRecDepth 65536 in
set_option maxHeartbeats 40000000 in
theorem rm35 (l : Launch) (Z : State) (a0 : Array Value) (hw : ∀ d ∈ tables_1, d.before a0 Z = true) (z0 : Int32) (fm0 : Value) (gl : own_Gl Z z0 fm0) (ws : List Jvm.Cond) (q : Int32) (h0 : Heap) (n0 : Nat) (Z0 : n0 ≤ h0.size) :
    own_MetN l Z (⟨"java/lang/StringLatin1", "toBytes", "(C)[B"⟩ : MethodName) jdk_43_method_46_code 1 (some (.array .byte)) ws ({ frames := 0, cells := 1, slots := 1, locals := 0 } : Room) #[(.int q)] h0 (fun v h L => Fr n0 L ∧ Keep h0 h [] ∧ ((∃ (b : Addr) (kb : ClassId), (v = some (.ref b)) ∧ (h0.size ≤ b) ∧ (Arv Z h b kb .byte (1 : Int32) [(.int (q.toInt8.toInt32))] (.int (0 : Int32)))))) := by
  refine own_metN (plainFor_of_name own_pn4) ?_
  intro p e s m below meth c s₁ G hx hby hml hZ hown hnm hret X0 e0 go fin
  obtain ⟨O2, P5, O4, R4, O_ad, O_hi, O_lo⟩ := id gl
  have N0 := Fr.nil n0
  refine go _ _ (fun _ k => castTop (own_ef_rm35 m q) k) ?_
  show G (s₁.setTop (mkF m 0 #[i' q] []))
  refine go _ _ (fun _ k => XS.iconst X0.here hx rfl (hb hby own_d35_0) k) ?_
  obtain ⟨T101, h101, k101, X101, e101, E101, A101, st101⟩ := newP X0 hx hZ (ow hw 7 rfl) e0 (g := (mkF m 1 #[i' q] [(.int 1)])) rfl (hb hby own_d35_1) rfl (by decide) (cap := 1) (by decide) (by decide) (by decide) (by decide)
  obtain ⟨b101, g101⟩ : ∃ z, z = h0.size := ⟨_, rfl⟩
  rw [← g101] at A101 st101
  have V101 : Arv Z h101 b101 k101 .byte (1 : Int32) [(.int (0 : Int32))] (.int (0 : Int32)) := (Arv.new A101 (by decide)).pad (pad_rep [] (.int (0 : Int32)) 1)
  refine go _ _ (st101) ?_
  show G (T101.setTop (mkF m 3 #[i' q] [(.ref b101)]))
  refine go _ _ (fun _ k => XS.dup X101.here hx rfl (hb hby own_d35_3) rfl rfl (XS.iconst X101.here hx rfl (hb hby own_d35_4) (XS.iloadN X101.here hx rfl (hb hby own_d35_5) rfl (XS.i2b X101.here hx rfl (hb hby own_d35_6) rfl k)))) ?_
  obtain ⟨cl102, Ar102, q102, S102, M102, H102, U102⟩ := id V101
  obtain ⟨T102, h102, X102, e102, W102, st102⟩ := stB X101 hx hZ e101 Ar102 (j := (0 : Int32)) (inb_of S102 ⟨by decide, by decide⟩) (g := (mkF m 7 #[i' q] [(.int (q.toInt8.toInt32)), (.int 0), (.ref b101), (.ref b101)])) rfl rfl (hb hby own_d35_7)
  have V102 : Arv Z h102 b101 k101 .byte (1 : Int32) [(.int (nar .byte (q.toInt8.toInt32)))] (.int (0 : Int32)) := Arv.set Ar102 q102 S102 M102 H102 U102 (fits_nar_byte _) W102 0 rfl (Nat.le_of_ble_eq_true rfl)
  rw [(own_i2b q)] at V102
  have N102 := Fr.snoc X102 N0 (Nat.le_trans Z0 (Nat.le_of_eq g101.symm))
  refine go _ _ (st102) ?_
  show G (T102.setTop (mkF m 8 #[i' q] [(.ref b101)]))
  have K103 : Keep h0 h101 [] := (Keep.refl h0 []).ext E101
  have K104 : Keep h0 h102 [] := K103.wr W102 (Or.inr (Nat.le_of_eq g101.symm))
  refine fin T102 _ _ _ (some (.ref b101)) X102 (fun q => nomatch q) (by decide) (by decide) (by rw [e102]; exact ⟨N102, K104, ⟨b101, k101, rfl, (Nat.le_of_eq g101.symm), V102⟩⟩) _ (own_retA X102 hx hret rfl rfl rfl (hb hby own_d35_8))
theorem own_d16_0 : decode jdk_43_method_3_code 0 = .ok (.iload_n 0, 1) := by decide +kernel
theorem own_d16_1 : decode jdk_43_method_3_code 1 = .ok (.sipush 255, 3) := by decide +kernel
theorem own_d16_4 : decode jdk_43_method_3_code 4 = .ok (.if_icmp .gt 7, 3) := by decide +kernel
theorem own_d16_11 : decode jdk_43_method_3_code 11 = .ok (.iconst 0, 1) := by decide +kernel
theorem own_d16_12 : decode jdk_43_method_3_code 12 = .ok (.ireturn, 1) := by decide +kernel
theorem own_d16_7 : decode jdk_43_method_3_code 7 = .ok (.iconst 1, 1) := by decide +kernel
theorem own_d16_8 : decode jdk_43_method_3_code 8 = .ok (.goto 4, 3) := by decide +kernel
set_option maxHeartbeats 4000000 in
theorem own_ef_rm16 (m : MethodId) (x0 : Int32) : entryFrame m #[(.int x0)] 1 = mkF m 0 #[.val (.int x0)] [] := by rfl
set_option maxRecDepth 65536 in
set_option maxHeartbeats 40000000 in
theorem rm16 (l : Launch) (Z : State) (a0 : Array Value) (hw : ∀ d ∈ tables_1, d.before a0 Z = true) (z0 : Int32) (fm0 : Value) (gl : own_Gl Z z0 fm0) (ws : List Jvm.Cond) (q : Int32) (h0 : Heap) (n0 : Nat) (Z0 : n0 ≤ h0.size) :
    own_MetN l Z (⟨"java/lang/StringLatin1", "canEncode", "(C)Z"⟩ : MethodName) jdk_43_method_3_code 1 (some .boolean) ws ({ frames := 0, cells := 0, slots := 0, locals := 0 } : Room) #[(.int q)] h0 (fun v h L => Fr n0 L ∧ h = h0 ∧ (((v = some (.int (1 : Int32))) ∧ (¬ (255 : Int32) < q)) ∨ ((v = some (.int (0 : Int32))) ∧ ((255 : Int32) < q)))) := by
  refine own_metN (plainFor_of_name own_pn4) ?_
  intro p e s m below meth c s₁ G hx hby hml hZ hown hnm hret X0 e0 go fin
  obtain ⟨O2, P5, O4, R4, O_ad, O_hi, O_lo⟩ := id gl
  have N0 := Fr.nil n0
  refine go _ _ (fun _ k => castTop (own_ef_rm16 m q) k) ?_
  show G (s₁.setTop (mkF m 0 #[i' q] []))
  refine go _ _ (fun _ k => XS.iloadN X0.here hx rfl (hb hby own_d16_0) rfl (XS.sipush X0.here hx rfl (hb hby own_d16_1) k)) ?_
  show G (s₁.setTop (mkF m 4 #[i' q] [(.int 255), (.int q)]))
  by_cases hc4_101 : (255 : Int32) < q
  · refine go _ _ (fun _ k => XS.icmpYes X0.here hx rfl (pc0 := 4) (pc' := 11) rfl (hb hby own_d16_4) rfl (tlt hc4_101).2.2.1 (by decide) (by decide) k) ?_
    show G (s₁.setTop (mkF m 11 #[i' q] []))
    refine go _ _ (fun _ k => XS.iconst X0.here hx rfl (hb hby own_d16_11) k) ?_
    show G (s₁.setTop (mkF m 12 #[i' q] [(.int 0)]))
    refine fin s₁ _ _ _ (some (.int (0 : Int32))) X0 (fun q => nomatch q) (by decide) (by decide) (by rw [e0]; exact ⟨N0, rfl, (Or.inr ⟨rfl, hc4_101⟩)⟩) _ (own_retN X0 hx (z := (0 : Int32)) (t := .boolean) hret (by simp) (hb hby own_d16_12))
  · refine go _ _ (fun _ k => XS.icmpNo X0.here hx rfl (hb hby own_d16_4) rfl (flt hc4_101).2.2.1 k) ?_
    show G (s₁.setTop (mkF m 7 #[i' q] []))
    refine go _ _ (fun _ k => XS.iconst X0.here hx rfl (hb hby own_d16_7) k) ?_
    show G (s₁.setTop (mkF m 8 #[i' q] [(.int 1)]))
    refine go _ _ (fun _ k => XS.goto X0.here hx rfl (pc0 := 8) (pc' := 12) rfl (hb hby own_d16_8) (by decide) (by decide) k) ?_
    show G (s₁.setTop (mkF m 12 #[i' q] [(.int 1)]))
    refine fin s₁ _ _ _ (some (.int (1 : Int32))) X0 (fun q => nomatch q) (by decide) (by decide) (by rw [e0]; exact ⟨N0, rfl, (Or.inl ⟨rfl, hc4_101⟩)⟩) _ (own_retN X0 hx (z := (1 : Int32)) (t := .boolean) hret (by simp) (hb hby own_d16_12))
theorem own_d36_0 : decode jdk_42_method_151_code 0 = .ok (.aload_n 0, 1) := by decide +kernel
theorem own_d36_1 : decode jdk_42_method_151_code 1 = .ok (.invokespecial 1, 3) := by decide +kernel
theorem own_d36_4 : decode jdk_42_method_151_code 4 = .ok (.aload_n 0, 1) := by decide +kernel
theorem own_d36_5 : decode jdk_42_method_151_code 5 = .ok (.aload_n 1, 1) := by decide +kernel
theorem own_d36_6 : decode jdk_42_method_151_code 6 = .ok (.putfield 9, 3) := by decide +kernel
theorem own_d36_9 : decode jdk_42_method_151_code 9 = .ok (.aload_n 0, 1) := by decide +kernel
theorem own_d36_10 : decode jdk_42_method_151_code 10 = .ok (.iload_n 2, 1) := by decide +kernel
theorem own_d36_11 : decode jdk_42_method_151_code 11 = .ok (.putfield 15, 3) := by decide +kernel
theorem own_d36_14 : decode jdk_42_method_151_code 14 = .ok (.return_, 1) := by decide +kernel
set_option maxHeartbeats 4000000 in
theorem own_ef_rmSi0 (m : MethodId) (x0 : Addr) (x1 : Addr) (x2 : Int32) : entryFrame m #[(.ref x0), (.ref x1), (.int x2)] 3 = mkF m 0 #[.val (.ref x0), .val (.ref x1), .val (.int x2)] [] := by rfl
set_option maxRecDepth 65536 in
set_option maxHeartbeats 40000000 in
theorem rmSi0 (l : Launch) (Z : State) (a0 : Array Value) (hw : ∀ d ∈ tables_1, d.before a0 Z = true) (z0 : Int32) (fm0 : Value) (gl : own_Gl Z z0 fm0) (ws : List Jvm.Cond) (a : Addr) (b : Addr) (h0 : Heap) (n0 : Nat) (Z0 : n0 ≤ h0.size) (Ea : Exa Z h0 a "java/lang/String") (Fv : Fld Z h0 a "java/lang/String" "value" "[B" .null) (Fc : Fld Z h0 a "java/lang/String" "coder" "B" (.int (0 : Int32))) (gz_a : n0 ≤ a) :
    own_MetN l Z (⟨"java/lang/String", "<init>", "([BB)V"⟩ : MethodName) jdk_42_method_151_code 3 none ws ({ frames := 1, cells := 0, slots := 0, locals := 12 } : Room) #[(.ref a), (.ref b), (.int (0 : Int32))] h0 (fun v h L => Fr n0 L ∧ Keep h0 h [a] ∧ (((v = none) ∧ (Exa Z h a "java/lang/String") ∧ (Fld Z h a "java/lang/String" "value" "[B" (.ref b)) ∧ (Fld Z h a "java/lang/String" "coder" "B" (.int (0 : Int32)))))) := by
  refine own_metN (plainFor_of_name own_pn0) ?_
  intro p e s m below meth c s₁ G hx hby hml hZ hown hnm hret X0 e0 go fin
  obtain ⟨O2, P5, O4, R4, O_ad, O_hi, O_lo⟩ := id gl
  have N0 := Fr.nil n0
  refine go _ _ (fun _ k => castTop (own_ef_rmSi0 m a b (0 : Int32)) k) ?_
  show G (s₁.setTop (mkF m 0 #[r' a, r' b, i' 0] []))
  refine go _ _ (fun _ k => XS.aloadN X0.here hx rfl (hb hby own_d36_0) rfl rfl k) ?_
  obtain ⟨T101, X101, e101, st101⟩ := initO X0 hx hZ hown (ow hw 117 rfl) (ow hw 29 rfl) (ow hw 30 rfl) e0 (g := (mkF m 1 #[r' a, r' b, i' 0] [(.ref a)])) rfl (by rw [hml]; rfl) rfl (hb hby own_d36_1) (by decide) (W := 0) (by show 2 * 0 + _ ≤ _; exact Nat.le_of_eq rfl) (by decide)
  refine go _ _ (st101) ?_
  show G (T101.setTop (mkF m 4 #[r' a, r' b, i' 0] []))
  refine go _ _ (fun _ k => XS.aloadN X101.here hx rfl (hb hby own_d36_4) rfl rfl (XS.aloadN X101.here hx rfl (hb hby own_d36_5) rfl rfl k)) ?_
  obtain ⟨T102, h102, X102, e102, W102, st102⟩ := putF X101 hx hZ hown (host := "") (Or.inl (ow hw 51 rfl)) Via.refl e101 Fv Ea (Or.inr ⟨(ow hw 8 rfl), rfl, hnm⟩) (ow hw 6 rfl) (ty := (.array .byte)) (by decide) rfl rfl (g := (mkF m 6 #[r' a, r' b, i' 0] [(.ref b), (.ref a)])) rfl rfl (hb hby own_d36_6)
  have N102 := Fr.snoc X102 N0 gz_a
  refine go _ _ (st102) ?_
  show G (T102.setTop (mkF m 9 #[r' a, r' b, i' 0] []))
  refine go _ _ (fun _ k => XS.aloadN X102.here hx rfl (hb hby own_d36_9) rfl rfl (XS.iloadN X102.here hx rfl (hb hby own_d36_10) rfl k)) ?_
  obtain ⟨T103, h103, X103, e103, W103, st103⟩ := putF X102 hx hZ hown (host := "") (Or.inl (ow hw 58 rfl)) Via.refl e102 (Fc.other W102 (Or.inr (RoadKit.slot_ne (t := .byte) (t' := (.array .byte)) (Or.inr (ow hw 9 rfl)) (Or.inr (ow hw 8 rfl)) (by decide) (by decide) (by decide)))) (Ea.wr W102) (Or.inr ⟨(ow hw 9 rfl), rfl, hnm⟩) (ow hw 6 rfl) (ty := .byte) (by decide) rfl rfl (g := (mkF m 11 #[r' a, r' b, i' 0] [(.int 0), (.ref a)])) rfl rfl (hb hby own_d36_11)
  have N103 := Fr.snoc X103 N102 gz_a
  refine go _ _ (st103) ?_
  show G (T103.setTop (mkF m 14 #[r' a, r' b, i' 0] []))
  have K104 : Keep h0 h102 [a] := (Keep.refl h0 [a]).wr W102 (Or.inl (List.mem_of_getElem? (i := 0) rfl))
  have K105 : Keep h0 h103 [a] := K104.wr W103 (Or.inl (List.mem_of_getElem? (i := 0) rfl))
  refine fin T103 _ _ _ none X103 (fun _ => rfl) (by decide) (by decide) (by rw [e103]; exact ⟨N103, K105, ⟨rfl, ((Ea.wr W102).wr W103), ((Fv.same W102).other W103 (Or.inr (RoadKit.slot_ne (t := (.array .byte)) (t' := .byte) (Or.inr (ow hw 8 rfl)) (Or.inr (ow hw 9 rfl)) (by decide) (by decide) (by decide)))), ((Fc.other W102 (Or.inr (RoadKit.slot_ne (t := .byte) (t' := (.array .byte)) (Or.inr (ow hw 9 rfl)) (Or.inr (ow hw 8 rfl)) (by decide) (by decide) (by decide)))).same W103)⟩⟩) _ (own_retV X103 hx hret (hb hby own_d36_14))
theorem own_d46_0 : decode jdk_52_method_15_code 0 = .ok (.iload_n 1, 1) := by decide +kernel
theorem own_d46_1 : decode jdk_52_method_15_code 1 = .ok (.aload_n 0, 1) := by decide +kernel
theorem own_d46_2 : decode jdk_52_method_15_code 2 = .ok (.arraylength, 1) := by decide +kernel
theorem own_d46_3 : decode jdk_52_method_15_code 3 = .ok (.isub, 1) := by decide +kernel
theorem own_d46_4 : decode jdk_52_method_15_code 4 = .ok (.bipush 31, 2) := by decide +kernel
theorem own_d46_6 : decode jdk_52_method_15_code 6 = .ok (.iushr, 1) := by decide +kernel
theorem own_d46_7 : decode jdk_52_method_15_code 7 = .ok (.i2b, 1) := by decide +kernel
theorem own_d46_8 : decode jdk_52_method_15_code 8 = .ok (.ireturn, 1) := by decide +kernel
set_option maxHeartbeats 4000000 in
theorem own_ef_rmCf0 (m : MethodId) (x0 : Addr) (x1 : Int32) : entryFrame m #[(.ref x0), (.int x1)] 2 = mkF m 0 #[.val (.ref x0), .val (.int x1)] [] := by rfl
set_option maxRecDepth 65536 in
set_option maxHeartbeats 40000000 in
theorem rmCf0 (l : Launch) (Z : State) (a0 : Array Value) (hw : ∀ d ∈ tables_1, d.before a0 Z = true) (z0 : Int32) (fm0 : Value) (gl : own_Gl Z z0 fm0) (ws : List Jvm.Cond) (b : Addr) (kb : ClassId) (vs : List Value) (h0 : Heap) (n0 : Nat) (Z0 : n0 ≤ h0.size) (Ab : Arv Z h0 b kb .byte (2 : Int32) vs (.int (0 : Int32))) :
    own_MetN l Z (⟨"java/lang/StringUTF16", "coderFromArrayLen", "([BI)B"⟩ : MethodName) jdk_52_method_15_code 2 (some .byte) ws ({ frames := 0, cells := 0, slots := 0, locals := 0 } : Room) #[(.ref b), (.int (2 : Int32))] h0 (fun v h L => Fr n0 L ∧ h = h0 ∧ (((v = some (.int (0 : Int32)))))) := by
  refine own_metN (plainFor_of_name own_pn3) ?_
  intro p e s m below meth c s₁ G hx hby hml hZ hown hnm hret X0 e0 go fin
  obtain ⟨O2, P5, O4, R4, O_ad, O_hi, O_lo⟩ := id gl
  have N0 := Fr.nil n0
  refine go _ _ (fun _ k => castTop (own_ef_rmCf0 m b (2 : Int32)) k) ?_
  show G (s₁.setTop (mkF m 0 #[r' b, i' 2] []))
  refine go _ _ (fun _ k => XS.iloadN X0.here hx rfl (hb hby own_d46_0) rfl (XS.aloadN X0.here hx rfl (hb hby own_d46_1) rfl rfl k)) ?_
  show G (s₁.setTop (mkF m 2 #[r' b, i' 2] [(.ref b), (.int 2)]))
  obtain ⟨cl101, Ar101, q101, S101, M101, H101, U101⟩ := id Ab
  refine go _ _ (fun _ k => X0.arraylength hx (by rw [e0]; exact Ar101.1) (State.isArrayOf_alike hZ.alike Ar101.2.1) (g := (mkF m 2 #[r' b, i' 2] [(.ref b), (.int 2)])) rfl rfl (hb hby own_d46_2) _ k) ?_
  show G (s₁.setTop (mkF m 3 #[r' b, i' 2] [(.int cl101.slots.size.toInt32), (.int 2)]))
  rw [len_of S101 M101]
  show G (s₁.setTop (mkF m 3 #[r' b, i' 2] [(.int 2), (.int 2)]))
  refine go _ _ (fun _ k => XS.isub X0.here hx rfl (hb hby own_d46_3) rfl (XS.bipush X0.here hx rfl (hb hby own_d46_4) (XS.iushr X0.here hx rfl (hb hby own_d46_6) rfl (XS.i2b X0.here hx rfl (hb hby own_d46_7) rfl k)))) ?_
  show G (s₁.setTop (mkF m 8 #[r' b, i' 2] [(.int 0)]))
  refine fin s₁ _ _ _ (some (.int (0 : Int32))) X0 (fun q => nomatch q) (by decide) (by decide) (by rw [e0]; exact ⟨N0, rfl, rfl⟩) _ (own_retN X0 hx (z := (0 : Int32)) (t := .byte) hret (by simp) (hb hby own_d46_8))
set_option maxHeartbeats 4000000 in
theorem own_ef_rmSi1 (m : MethodId) (x0 : Addr) (x1 : Addr) (x2 : Int32) : entryFrame m #[(.ref x0), (.ref x1), (.int x2)] 3 = mkF m 0 #[.val (.ref x0), .val (.ref x1), .val (.int x2)] [] := by rfl
set_option maxRecDepth 65536 in
set_option maxHeartbeats 40000000 in
theorem rmSi1 (l : Launch) (Z : State) (a0 : Array Value) (hw : ∀ d ∈ tables_1, d.before a0 Z = true) (z0 : Int32) (fm0 : Value) (gl : own_Gl Z z0 fm0) (ws : List Jvm.Cond) (a : Addr) (b : Addr) (h0 : Heap) (n0 : Nat) (Z0 : n0 ≤ h0.size) (Ea : Exa Z h0 a "java/lang/String") (Fv : Fld Z h0 a "java/lang/String" "value" "[B" .null) (Fc : Fld Z h0 a "java/lang/String" "coder" "B" (.int (0 : Int32))) (gz_a : n0 ≤ a) :
    own_MetN l Z (⟨"java/lang/String", "<init>", "([BB)V"⟩ : MethodName) jdk_42_method_151_code 3 none ws ({ frames := 1, cells := 0, slots := 0, locals := 12 } : Room) #[(.ref a), (.ref b), (.int (1 : Int32))] h0 (fun v h L => Fr n0 L ∧ Keep h0 h [a] ∧ (((v = none) ∧ (Exa Z h a "java/lang/String") ∧ (Fld Z h a "java/lang/String" "value" "[B" (.ref b)) ∧ (Fld Z h a "java/lang/String" "coder" "B" (.int (1 : Int32)))))) := by
  refine own_metN (plainFor_of_name own_pn0) ?_
  intro p e s m below meth c s₁ G hx hby hml hZ hown hnm hret X0 e0 go fin
  obtain ⟨O2, P5, O4, R4, O_ad, O_hi, O_lo⟩ := id gl
  have N0 := Fr.nil n0
  refine go _ _ (fun _ k => castTop (own_ef_rmSi1 m a b (1 : Int32)) k) ?_
  show G (s₁.setTop (mkF m 0 #[r' a, r' b, i' 1] []))
  refine go _ _ (fun _ k => XS.aloadN X0.here hx rfl (hb hby own_d36_0) rfl rfl k) ?_
  obtain ⟨T101, X101, e101, st101⟩ := initO X0 hx hZ hown (ow hw 117 rfl) (ow hw 29 rfl) (ow hw 30 rfl) e0 (g := (mkF m 1 #[r' a, r' b, i' 1] [(.ref a)])) rfl (by rw [hml]; rfl) rfl (hb hby own_d36_1) (by decide) (W := 0) (by show 2 * 0 + _ ≤ _; exact Nat.le_of_eq rfl) (by decide)
  refine go _ _ (st101) ?_
  show G (T101.setTop (mkF m 4 #[r' a, r' b, i' 1] []))
  refine go _ _ (fun _ k => XS.aloadN X101.here hx rfl (hb hby own_d36_4) rfl rfl (XS.aloadN X101.here hx rfl (hb hby own_d36_5) rfl rfl k)) ?_
  obtain ⟨T102, h102, X102, e102, W102, st102⟩ := putF X101 hx hZ hown (host := "") (Or.inl (ow hw 51 rfl)) Via.refl e101 Fv Ea (Or.inr ⟨(ow hw 8 rfl), rfl, hnm⟩) (ow hw 6 rfl) (ty := (.array .byte)) (by decide) rfl rfl (g := (mkF m 6 #[r' a, r' b, i' 1] [(.ref b), (.ref a)])) rfl rfl (hb hby own_d36_6)
  have N102 := Fr.snoc X102 N0 gz_a
  refine go _ _ (st102) ?_
  show G (T102.setTop (mkF m 9 #[r' a, r' b, i' 1] []))
  refine go _ _ (fun _ k => XS.aloadN X102.here hx rfl (hb hby own_d36_9) rfl rfl (XS.iloadN X102.here hx rfl (hb hby own_d36_10) rfl k)) ?_
  obtain ⟨T103, h103, X103, e103, W103, st103⟩ := putF X102 hx hZ hown (host := "") (Or.inl (ow hw 58 rfl)) Via.refl e102 (Fc.other W102 (Or.inr (RoadKit.slot_ne (t := .byte) (t' := (.array .byte)) (Or.inr (ow hw 9 rfl)) (Or.inr (ow hw 8 rfl)) (by decide) (by decide) (by decide)))) (Ea.wr W102) (Or.inr ⟨(ow hw 9 rfl), rfl, hnm⟩) (ow hw 6 rfl) (ty := .byte) (by decide) rfl rfl (g := (mkF m 11 #[r' a, r' b, i' 1] [(.int 1), (.ref a)])) rfl rfl (hb hby own_d36_11)
  have N103 := Fr.snoc X103 N102 gz_a
  refine go _ _ (st103) ?_
  show G (T103.setTop (mkF m 14 #[r' a, r' b, i' 1] []))
  have K104 : Keep h0 h102 [a] := (Keep.refl h0 [a]).wr W102 (Or.inl (List.mem_of_getElem? (i := 0) rfl))
  have K105 : Keep h0 h103 [a] := K104.wr W103 (Or.inl (List.mem_of_getElem? (i := 0) rfl))
  refine fin T103 _ _ _ none X103 (fun _ => rfl) (by decide) (by decide) (by rw [e103]; exact ⟨N103, K105, ⟨rfl, ((Ea.wr W102).wr W103), ((Fv.same W102).other W103 (Or.inr (RoadKit.slot_ne (t := (.array .byte)) (t' := .byte) (Or.inr (ow hw 8 rfl)) (Or.inr (ow hw 9 rfl)) (by decide) (by decide) (by decide)))), ((Fc.other W102 (Or.inr (RoadKit.slot_ne (t := .byte) (t' := (.array .byte)) (Or.inr (ow hw 9 rfl)) (Or.inr (ow hw 8 rfl)) (by decide) (by decide) (by decide)))).same W103)⟩⟩) _ (own_retV X103 hx hret (hb hby own_d36_14))
set_option maxHeartbeats 4000000 in
theorem own_ef_rmCf1 (m : MethodId) (x0 : Addr) (x1 : Int32) : entryFrame m #[(.ref x0), (.int x1)] 2 = mkF m 0 #[.val (.ref x0), .val (.int x1)] [] := by rfl
set_option maxRecDepth 65536 in
set_option maxHeartbeats 40000000 in
theorem rmCf1 (l : Launch) (Z : State) (a0 : Array Value) (hw : ∀ d ∈ tables_1, d.before a0 Z = true) (z0 : Int32) (fm0 : Value) (gl : own_Gl Z z0 fm0) (ws : List Jvm.Cond) (b : Addr) (kb : ClassId) (vs : List Value) (h0 : Heap) (n0 : Nat) (Z0 : n0 ≤ h0.size) (Ab : Arv Z h0 b kb .byte (4 : Int32) vs (.int (0 : Int32))) :
    own_MetN l Z (⟨"java/lang/StringUTF16", "coderFromArrayLen", "([BI)B"⟩ : MethodName) jdk_52_method_15_code 2 (some .byte) ws ({ frames := 0, cells := 0, slots := 0, locals := 0 } : Room) #[(.ref b), (.int (2 : Int32))] h0 (fun v h L => Fr n0 L ∧ h = h0 ∧ (((v = some (.int (1 : Int32)))))) := by
  refine own_metN (plainFor_of_name own_pn3) ?_
  intro p e s m below meth c s₁ G hx hby hml hZ hown hnm hret X0 e0 go fin
  obtain ⟨O2, P5, O4, R4, O_ad, O_hi, O_lo⟩ := id gl
  have N0 := Fr.nil n0
  refine go _ _ (fun _ k => castTop (own_ef_rmCf1 m b (2 : Int32)) k) ?_
  show G (s₁.setTop (mkF m 0 #[r' b, i' 2] []))
  refine go _ _ (fun _ k => XS.iloadN X0.here hx rfl (hb hby own_d46_0) rfl (XS.aloadN X0.here hx rfl (hb hby own_d46_1) rfl rfl k)) ?_
  show G (s₁.setTop (mkF m 2 #[r' b, i' 2] [(.ref b), (.int 2)]))
  obtain ⟨cl101, Ar101, q101, S101, M101, H101, U101⟩ := id Ab
  refine go _ _ (fun _ k => X0.arraylength hx (by rw [e0]; exact Ar101.1) (State.isArrayOf_alike hZ.alike Ar101.2.1) (g := (mkF m 2 #[r' b, i' 2] [(.ref b), (.int 2)])) rfl rfl (hb hby own_d46_2) _ k) ?_
  show G (s₁.setTop (mkF m 3 #[r' b, i' 2] [(.int cl101.slots.size.toInt32), (.int 2)]))
  rw [len_of S101 M101]
  show G (s₁.setTop (mkF m 3 #[r' b, i' 2] [(.int 4), (.int 2)]))
  refine go _ _ (fun _ k => XS.isub X0.here hx rfl (hb hby own_d46_3) rfl (XS.bipush X0.here hx rfl (hb hby own_d46_4) (XS.iushr X0.here hx rfl (hb hby own_d46_6) rfl (XS.i2b X0.here hx rfl (hb hby own_d46_7) rfl k)))) ?_
  show G (s₁.setTop (mkF m 8 #[r' b, i' 2] [(.int 1)]))
  refine fin s₁ _ _ _ (some (.int (1 : Int32))) X0 (fun q => nomatch q) (by decide) (by decide) (by rw [e0]; exact ⟨N0, rfl, rfl⟩) _ (own_retN X0 hx (z := (1 : Int32)) (t := .byte) hret (by simp) (hb hby own_d46_8))
theorem own_d34_0 : decode jdk_42_method_139_code 0 = .ok (.getstatic 38, 3) := by decide +kernel
theorem own_d34_3 : decode jdk_42_method_139_code 3 = .ok (.ifCond .eq 23, 3) := by decide +kernel
theorem own_d34_6 : decode jdk_42_method_139_code 6 = .ok (.iload_n 0, 1) := by decide +kernel
theorem own_pd11 : parseMethodDescriptor "(C)Z" = some ⟨[.char], some .boolean⟩ := by decide +kernel
theorem own_d34_7 : decode jdk_42_method_139_code 7 = .ok (.invokestatic 1015, 3) := by decide +kernel
theorem own_d34_10 : decode jdk_42_method_139_code 10 = .ok (.ifCond .eq 16, 3) := by decide +kernel
theorem own_d34_13 : decode jdk_42_method_139_code 13 = .ok (.new 10, 3) := by decide +kernel
theorem own_d34_16 : decode jdk_42_method_139_code 16 = .ok (.dup, 1) := by decide +kernel
theorem own_d34_17 : decode jdk_42_method_139_code 17 = .ok (.iload_n 0, 1) := by decide +kernel
theorem own_pd12 : parseMethodDescriptor "(C)[B" = some ⟨[.char], some (.array .byte)⟩ := by decide +kernel
theorem own_d34_18 : decode jdk_42_method_139_code 18 = .ok (.invokestatic 1018, 3) := by decide +kernel
theorem own_d34_21 : decode jdk_42_method_139_code 21 = .ok (.iconst 0, 1) := by decide +kernel
theorem own_pd13 : parseMethodDescriptor "([BB)V" = some ⟨[(.array .byte), .byte], none⟩ := by decide +kernel
theorem own_d34_22 : decode jdk_42_method_139_code 22 = .ok (.invokespecial 209, 3) := by decide +kernel
theorem own_d34_25 : decode jdk_42_method_139_code 25 = .ok (.areturn, 1) := by decide +kernel
theorem own_d34_26 : decode jdk_42_method_139_code 26 = .ok (.new 10, 3) := by decide +kernel
theorem own_d34_29 : decode jdk_42_method_139_code 29 = .ok (.dup, 1) := by decide +kernel
theorem own_d34_30 : decode jdk_42_method_139_code 30 = .ok (.iload_n 0, 1) := by decide +kernel
theorem own_d34_31 : decode jdk_42_method_139_code 31 = .ok (.invokestatic 1021, 3) := by decide +kernel
theorem own_d34_34 : decode jdk_42_method_139_code 34 = .ok (.iconst 1, 1) := by decide +kernel
theorem own_d34_35 : decode jdk_42_method_139_code 35 = .ok (.invokespecial 209, 3) := by decide +kernel
theorem own_d34_38 : decode jdk_42_method_139_code 38 = .ok (.areturn, 1) := by decide +kernel
set_option maxHeartbeats 4000000 in
theorem own_ef_rm34 (m : MethodId) (x0 : Int32) : entryFrame m #[(.int x0)] 1 = mkF m 0 #[.val (.int x0)] [] := by rfl
set_option maxRecDepth 65536 in
set_option maxHeartbeats 40000000 in
theorem rm34 (l : Launch) (Z : State) (a0 : Array Value) (hw : ∀ d ∈ tables_1, d.before a0 Z = true) (z0 : Int32) (fm0 : Value) (gl : own_Gl Z z0 fm0) (ws : List Jvm.Cond) (q : Int32) (h0 : Heap) (n0 : Nat) (Z0 : n0 ≤ h0.size) (Xo : Old Z n0 h0) (h1 : ¬ q < (0 : Int32)) (h2 : ¬ (65535 : Int32) < q) :
    own_MetN l Z (⟨"java/lang/String", "valueOf", "(C)Ljava/lang/String;"⟩ : MethodName) jdk_42_method_139_code 1 (some (.object "java/lang/String")) ws ({ frames := 2, cells := 2, slots := 6, locals := 29 } : Room) #[(.int q)] h0 (fun v h L => Fr n0 L ∧ Keep h0 h [] ∧ ((∃ (b : Addr), (v = some (.ref b)) ∧ (h0.size ≤ b) ∧ (Exa Z h b "java/lang/String") ∧ (own_S Z h b ([q] : List Int32))))) := by
  refine own_metN (plainFor_of_name own_pn0) ?_
  intro p e s m below meth c s₁ G hx hby hml hZ hown hnm hret X0 e0 go fin
  obtain ⟨O2, P5, O4, R4, O_ad, O_hi, O_lo⟩ := id gl
  have N0 := Fr.nil n0
  refine go _ _ (fun _ k => castTop (own_ef_rm34 m q) k) ?_
  obtain ⟨T101, X101, e101, st101⟩ := getS2 X0 hx hZ (host := "") hown (Or.inl (ow hw 57 rfl)) Via.refl e0 (O2.ext Xo.2) (g := (mkF m 0 #[i' q] [])) rfl (hb hby own_d34_0)
  refine go _ _ (st101) ?_
  show G (T101.setTop (mkF m 3 #[i' q] [(.int z0)]))
  refine go _ _ (fun _ k => XS.ifNo X101.here hx rfl (hb hby own_d34_3) rfl ((if0 _ _).trans (feq P5).1) k) ?_
  show G (T101.setTop (mkF m 6 #[i' q] []))
  refine go _ _ (fun _ k => XS.iloadN X101.here hx rfl (hb hby own_d34_6) rfl k) ?_
  obtain ⟨rv102, T102, L102, X102, q102, st102⟩ := own_st X101 hx hZ (y := (⟨"java/lang/StringLatin1", "canEncode", "(C)Z"⟩ : MethodName)) hown (ow hw 178 rfl) (ow hw 101 rfl) (ow hw 102 rfl) (ow hw 103 rfl) (by decide) (own_bkN (W := 0) (rm16 l Z a0 hw z0 fm0 gl [] q h0 n0 Z0) hZ (ow hw 103 rfl) (ow hw 102 rfl) (by decide) (by decide)) e101 (g := (mkF m 7 #[i' q] [(.int q)])) rfl (by rw [hml]; rfl) (argsL := [(.int q)]) (rest := []) rfl (lenOf own_pd11 rfl) rfl (by show 2 * 0 + _ ≤ _; exact Nat.le_of_eq rfl) (hb hby own_d34_7) (by decide) (by decide)
  obtain ⟨Nq102, e102, q102⟩ := q102
  have N102 := Fr.app N0 Nq102
  rcases q102 with ⟨rfl, p103⟩ | ⟨rfl, p104⟩
  · refine go _ _ (st102) ?_
    show G (T102.setTop (mkF m 10 #[i' q] [(.int 1)]))
    refine go _ _ (fun _ k => XS.ifNo X102.here hx rfl (hb hby own_d34_10) rfl (by decide) k) ?_
    obtain ⟨T105, h105, X105, e105, E105, A105, D105, -, st105⟩ := newO X102 hx hZ hown (ow hw 179 rfl) (ow hw 6 rfl) (ow hw 5 rfl) e102 (g := (mkF m 13 #[i' q] [])) rfl (hb hby own_d34_13) (by decide) (by decide)
    obtain ⟨b105, g105⟩ : ∃ z, z = h0.size := ⟨_, rfl⟩
    rw [← g105] at A105 D105 st105
    refine go _ _ (st105) ?_
    show G (T105.setTop (mkF m 16 #[i' q] [(.ref b105)]))
    refine go _ _ (fun _ k => XS.dup X105.here hx rfl (hb hby own_d34_16) rfl rfl (XS.iloadN X105.here hx rfl (hb hby own_d34_17) rfl k)) ?_
    have Z107 : h0.size ≤ h105.size := E105.1
    obtain ⟨rv106, T106, L106, X106, q106, st106⟩ := own_st X105 hx hZ (y := (⟨"java/lang/StringLatin1", "toBytes", "(C)[B"⟩ : MethodName)) hown (ow hw 180 rfl) (ow hw 181 rfl) (ow hw 102 rfl) (ow hw 182 rfl) (by decide) (own_bkN (W := 2) (rm35 l Z a0 hw z0 fm0 gl [] q h105 n0 (Nat.le_trans Z0 Z107)) hZ (ow hw 182 rfl) (ow hw 102 rfl) (by decide) (by decide)) e105 (g := (mkF m 18 #[i' q] [(.int q), (.ref b105), (.ref b105)])) rfl (by rw [hml]; rfl) (argsL := [(.int q)]) (rest := [(.ref b105), (.ref b105)]) rfl (lenOf own_pd12 rfl) rfl (by show 2 * 0 + _ ≤ _; exact Nat.le_of_eq rfl) (hb hby own_d34_18) (by decide) (by decide)
    obtain ⟨Nq106, Kp106, ⟨b_108, kb_109, rfl, z110, f111⟩⟩ := q106
    have N106 := Fr.app N102 Nq106
    refine go _ _ (st106) ?_
    show G (T106.setTop (mkF m 21 #[i' q] [(.ref b_108), (.ref b105), (.ref b105)]))
    refine go _ _ (fun _ k => XS.iconst X106.here hx rfl (hb hby own_d34_21) k) ?_
    have K113 : Keep h105 T106.heap [] := (Keep.refl h105 []).trans Kp106 all0
    have F114 : Exa Z T106.heap b105 "java/lang/String" := (A105.keep K113)
    have F115 : Fld Z T106.heap b105 "java/lang/String" "value" "[B" .null := ((D105 (Or.inr (ow hw 8 rfl)) (ty := (.array .byte)) (by decide)).keep K113 nin0)
    have F116 : Fld Z T106.heap b105 "java/lang/String" "coder" "B" (.int (0 : Int32)) := ((D105 (Or.inr (ow hw 9 rfl)) (ty := .byte) (by decide)).keep K113 nin0)
    have Z117 : h0.size ≤ T106.heap.size := Nat.le_trans Z107 Kp106.1
    obtain ⟨rv112, T112, L112, X112, q112, st112⟩ := own_sp X106 hx hZ (y := (⟨"java/lang/String", "<init>", "([BB)V"⟩ : MethodName)) rfl hown (ow hw 183 rfl) (ow hw 184 rfl) (ow hw 185 rfl) (by decide) (own_bkN (W := 1) (rmSi0 l Z a0 hw z0 fm0 gl [] b105 b_108 T106.heap n0 (Nat.le_trans Z0 Z117) F114 F115 F116 (Nat.le_trans Z0 (Nat.le_of_eq g105.symm))) hZ (ow hw 185 rfl) (ow hw 5 rfl) (by decide) (by decide)) rfl (g := (mkF m 22 #[i' q] [(.int 0), (.ref b_108), (.ref b105), (.ref b105)])) rfl (by rw [hml]; rfl) (a := b105) (argsL := [(.ref b_108), (.int (0 : Int32))]) (rest := [(.ref b105)]) rfl (lenOf own_pd13 rfl) rfl (by show 2 * 0 + _ ≤ _; exact Nat.le_of_eq rfl) (hb hby own_d34_22) (by decide) (by decide)
    obtain ⟨Nq112, Kp112, ⟨rfl, f118, f119, f120⟩⟩ := q112
    have N112 := Fr.app N106 Nq112
    refine go _ _ (st112) ?_
    show G (T112.setTop (mkF m 25 #[i' q] [(.ref b105)]))
    have K121 : Keep h0 h105 [] := (Keep.refl h0 []).ext E105
    have K122 : Keep h0 T106.heap [] := K121.trans Kp106 all0
    have K123 : Keep h0 T112.heap [] := K122.trans Kp112 (allS (Or.inr (Nat.le_of_eq g105.symm)) all0)
    have K124 : Keep T106.heap T112.heap [b105] := (Keep.refl T106.heap [b105]).trans Kp112 (allS (Or.inl (List.mem_of_getElem? (i := 0) rfl)) all0)
    have F125 : Arv Z T112.heap b_108 kb_109 .byte (1 : Int32) [(.int (q.toInt8.toInt32))] (.int (0 : Int32)) := (f111.keep K124 (ninS (Ne.symm (Nat.ne_of_lt (Nat.lt_of_lt_of_le A105.lt z110))) nin0))
    have Sx : own_S Z T112.heap b105 ([q] : List Int32) := ⟨_, _, f118, f119, (own_bd1 h1 h2), (Nat.le_of_ble_eq_true rfl), (Or.inl ⟨f120, F125, (own_b81 p103)⟩)⟩
    refine fin T112 _ _ _ (some (.ref b105)) X112 (fun q => nomatch q) (by decide) (by decide) ⟨N112, K123, ⟨b105, rfl, (Nat.le_of_eq g105.symm), f118, Sx⟩⟩ _ (own_retA X112 hx hret rfl rfl rfl (hb hby own_d34_25))
  · refine go _ _ (st102) ?_
    show G (T102.setTop (mkF m 10 #[i' q] [(.int 0)]))
    refine go _ _ (fun _ k => XS.ifYes X102.here hx rfl (pc0 := 10) (pc' := 26) rfl (hb hby own_d34_10) rfl (by decide) (by decide) (by decide) k) ?_
    obtain ⟨T126, h126, X126, e126, E126, A126, D126, -, st126⟩ := newO X102 hx hZ hown (ow hw 179 rfl) (ow hw 6 rfl) (ow hw 5 rfl) e102 (g := (mkF m 26 #[i' q] [])) rfl (hb hby own_d34_26) (by decide) (by decide)
    obtain ⟨b126, g126⟩ : ∃ z, z = h0.size := ⟨_, rfl⟩
    rw [← g126] at A126 D126 st126
    refine go _ _ (st126) ?_
    show G (T126.setTop (mkF m 29 #[i' q] [(.ref b126)]))
    refine go _ _ (fun _ k => XS.dup X126.here hx rfl (hb hby own_d34_29) rfl rfl (XS.iloadN X126.here hx rfl (hb hby own_d34_30) rfl k)) ?_
    have K128 : Keep h0 h126 [] := (Keep.refl h0 []).ext E126
    have F129 : Old Z n0 h126 := (Xo.keep K128 all0)
    have Z130 : h0.size ≤ h126.size := E126.1
    obtain ⟨rv127, T127, L127, X127, q127, st127⟩ := own_st X126 hx hZ (y := (⟨"java/lang/StringUTF16", "toBytes", "(C)[B"⟩ : MethodName)) hown (ow hw 260 rfl) (ow hw 261 rfl) (ow hw 196 rfl) (ow hw 262 rfl) (by decide) (own_bkN (W := 2) (rm57 l Z a0 hw z0 fm0 gl [] q h126 n0 (Nat.le_trans Z0 Z130) F129) hZ (ow hw 262 rfl) (ow hw 196 rfl) (by decide) (by decide)) e126 (g := (mkF m 31 #[i' q] [(.int q), (.ref b126), (.ref b126)])) rfl (by rw [hml]; rfl) (argsL := [(.int q)]) (rest := [(.ref b126), (.ref b126)]) rfl (lenOf own_pd12 rfl) rfl (by show 2 * 0 + _ ≤ _; exact Nat.le_of_eq rfl) (hb hby own_d34_31) (by decide) (by decide)
    obtain ⟨Nq127, Kp127, ⟨b_131, kb_132, rfl, z133, f134⟩⟩ := q127
    have N127 := Fr.app N102 Nq127
    refine go _ _ (st127) ?_
    show G (T127.setTop (mkF m 34 #[i' q] [(.ref b_131), (.ref b126), (.ref b126)]))
    refine go _ _ (fun _ k => XS.iconst X127.here hx rfl (hb hby own_d34_34) k) ?_
    have K136 : Keep h126 T127.heap [] := (Keep.refl h126 []).trans Kp127 all0
    have F137 : Exa Z T127.heap b126 "java/lang/String" := (A126.keep K136)
    have F138 : Fld Z T127.heap b126 "java/lang/String" "value" "[B" .null := ((D126 (Or.inr (ow hw 8 rfl)) (ty := (.array .byte)) (by decide)).keep K136 nin0)
    have F139 : Fld Z T127.heap b126 "java/lang/String" "coder" "B" (.int (0 : Int32)) := ((D126 (Or.inr (ow hw 9 rfl)) (ty := .byte) (by decide)).keep K136 nin0)
    have Z140 : h0.size ≤ T127.heap.size := Nat.le_trans Z130 Kp127.1
    obtain ⟨rv135, T135, L135, X135, q135, st135⟩ := own_sp X127 hx hZ (y := (⟨"java/lang/String", "<init>", "([BB)V"⟩ : MethodName)) rfl hown (ow hw 183 rfl) (ow hw 184 rfl) (ow hw 185 rfl) (by decide) (own_bkN (W := 1) (rmSi1 l Z a0 hw z0 fm0 gl [] b126 b_131 T127.heap n0 (Nat.le_trans Z0 Z140) F137 F138 F139 (Nat.le_trans Z0 (Nat.le_of_eq g126.symm))) hZ (ow hw 185 rfl) (ow hw 5 rfl) (by decide) (by decide)) rfl (g := (mkF m 35 #[i' q] [(.int 1), (.ref b_131), (.ref b126), (.ref b126)])) rfl (by rw [hml]; rfl) (a := b126) (argsL := [(.ref b_131), (.int (1 : Int32))]) (rest := [(.ref b126)]) rfl (lenOf own_pd13 rfl) rfl (by show 2 * 0 + _ ≤ _; exact Nat.le_of_eq rfl) (hb hby own_d34_35) (by decide) (by decide)
    obtain ⟨Nq135, Kp135, ⟨rfl, f141, f142, f143⟩⟩ := q135
    have N135 := Fr.app N127 Nq135
    refine go _ _ (st135) ?_
    show G (T135.setTop (mkF m 38 #[i' q] [(.ref b126)]))
    have K144 : Keep h0 T127.heap [] := K128.trans Kp127 all0
    have K145 : Keep h0 T135.heap [] := K144.trans Kp135 (allS (Or.inr (Nat.le_of_eq g126.symm)) all0)
    have K146 : Keep T127.heap T135.heap [b126] := (Keep.refl T127.heap [b126]).trans Kp135 (allS (Or.inl (List.mem_of_getElem? (i := 0) rfl)) all0)
    have F147 : Arv Z T135.heap b_131 kb_132 .byte (2 : Int32) (own_u ([q] : List Int32)) (.int (0 : Int32)) := (f134.keep K146 (ninS (Ne.symm (Nat.ne_of_lt (Nat.lt_of_lt_of_le A126.lt z133))) nin0))
    have Sx : own_S Z T135.heap b126 ([q] : List Int32) := ⟨_, _, f141, f142, (own_bd1 h1 h2), (Nat.le_of_ble_eq_true rfl), (Or.inr ⟨f143, F147⟩)⟩
    refine fin T135 _ _ _ (some (.ref b126)) X135 (fun q => nomatch q) (by decide) (by decide) ⟨N135, K145, ⟨b126, rfl, (Nat.le_of_eq g126.symm), f141, Sx⟩⟩ _ (own_retA X135 hx hret rfl rfl rfl (hb hby own_d34_38))
theorem own_d41_0 : decode jdk_52_method_14_code 0 = .ok (.iload_n 2, 1) := by decide +kernel
theorem own_pd14 : parseMethodDescriptor "(I)[B" = some ⟨[.int], some (.array .byte)⟩ := by decide +kernel
theorem own_d41_1 : decode jdk_52_method_14_code 1 = .ok (.invokestatic 107, 3) := by decide +kernel
theorem own_d41_4 : decode jdk_52_method_14_code 4 = .ok (.astore_n 3, 1) := by decide +kernel
theorem own_d41_5 : decode jdk_52_method_14_code 5 = .ok (.iconst 0, 1) := by decide +kernel
theorem own_d41_6 : decode jdk_52_method_14_code 6 = .ok (.istore 4, 2) := by decide +kernel
theorem own_d41_8 : decode jdk_52_method_14_code 8 = .ok (.iload 4, 2) := by decide +kernel
theorem own_d41_10 : decode jdk_52_method_14_code 10 = .ok (.iload_n 2, 1) := by decide +kernel
theorem own_d41_11 : decode jdk_52_method_14_code 11 = .ok (.if_icmp .ge 21, 3) := by decide +kernel
theorem own_d41_14 : decode jdk_52_method_14_code 14 = .ok (.aload_n 3, 1) := by decide +kernel
theorem own_d41_15 : decode jdk_52_method_14_code 15 = .ok (.iload 4, 2) := by decide +kernel
theorem own_d41_17 : decode jdk_52_method_14_code 17 = .ok (.aload_n 0, 1) := by decide +kernel
theorem own_d41_18 : decode jdk_52_method_14_code 18 = .ok (.iload_n 1, 1) := by decide +kernel
theorem own_d41_19 : decode jdk_52_method_14_code 19 = .ok (.caload, 1) := by decide +kernel
theorem own_d41_20 : decode jdk_52_method_14_code 20 = .ok (.invokestatic 111, 3) := by decide +kernel
theorem own_d41_23 : decode jdk_52_method_14_code 23 = .ok (.iinc 1 1, 3) := by decide +kernel
theorem own_d41_26 : decode jdk_52_method_14_code 26 = .ok (.iinc 4 1, 3) := by decide +kernel
theorem own_d41_29 : decode jdk_52_method_14_code 29 = .ok (.goto (-21), 3) := by decide +kernel
theorem own_d41_32 : decode jdk_52_method_14_code 32 = .ok (.aload_n 3, 1) := by decide +kernel
theorem own_d41_33 : decode jdk_52_method_14_code 33 = .ok (.areturn, 1) := by decide +kernel
set_option maxHeartbeats 4000000 in
theorem own_ef_rm41 (m : MethodId) (x0 : Addr) (x1 : Int32) (x2 : Int32) : entryFrame m #[(.ref x0), (.int x1), (.int x2)] 5 = mkF m 0 #[.val (.ref x0), .val (.int x1), .val (.int x2), .unset, .unset] [] := by rfl
set_option maxRecDepth 65536 in
set_option maxHeartbeats 40000000 in
theorem rm41 (l : Launch) (Z : State) (a0 : Array Value) (hw : ∀ d ∈ tables_1, d.before a0 Z = true) (z0 : Int32) (fm0 : Value) (gl : own_Gl Z z0 fm0) (ws : List Jvm.Cond) (b : Addr) (kc : ClassId) (x1 : Int32) (x2 : Int32) (h0 : Heap) (n0 : Nat) (Z0 : n0 ≤ h0.size) (Xo : Old Z n0 h0) (Ab : Arv Z h0 b kc .char (2 : Int32) [(.int x1), (.int x2)] (.int (0 : Int32))) :
    own_MetN l Z (⟨"java/lang/StringUTF16", "toBytes", "([CII)[B"⟩ : MethodName) jdk_52_method_14_code 5 (some (.array .byte)) ws ({ frames := 2, cells := 1, slots := 4, locals := 24 } : Room) #[(.ref b), (.int (0 : Int32)), (.int (2 : Int32))] h0 (fun v h L => Fr n0 L ∧ Keep h0 h [] ∧ ((∃ (rb : Addr) (kr : ClassId), (v = some (.ref rb)) ∧ (h0.size ≤ rb) ∧ (Arv Z h rb kr .byte (4 : Int32) (own_u ([x1, x2] : List Int32)) (.int (0 : Int32)))))) := by
  refine own_metN (plainFor_of_name own_pn3) ?_
  intro p e s m below meth c s₁ G hx hby hml hZ hown hnm hret X0 e0 go fin
  obtain ⟨O2, P5, O4, R4, O_ad, O_hi, O_lo⟩ := id gl
  have N0 := Fr.nil n0
  refine go _ _ (fun _ k => castTop (own_ef_rm41 m b (0 : Int32) (2 : Int32)) k) ?_
  show G (s₁.setTop (mkF m 0 #[r' b, i' 0, i' 2, u', u'] []))
  refine go _ _ (fun _ k => XS.iloadN X0.here hx rfl (hb hby own_d41_0) rfl k) ?_
  obtain ⟨rv101, T101, L101, X101, q101, st101⟩ := own_st X0 hx hZ (y := (⟨"java/lang/StringUTF16", "newBytesFor", "(I)[B"⟩ : MethodName)) hown (ow hw 204 rfl) (ow hw 205 rfl) (ow hw 196 rfl) (ow hw 206 rfl) (by decide) (own_bkN (W := 0) (rmNF2 l Z a0 hw z0 fm0 gl [] h0 n0 Z0) hZ (ow hw 206 rfl) (ow hw 196 rfl) (by decide) (by decide)) e0 (g := (mkF m 1 #[r' b, i' 0, i' 2, u', u'] [(.int 2)])) rfl (by rw [hml]; rfl) (argsL := [(.int (2 : Int32))]) (rest := []) rfl (lenOf own_pd14 rfl) rfl (by show 2 * 0 + _ ≤ _; exact Nat.le_of_eq rfl) (hb hby own_d41_1) (by decide) (by decide)
  obtain ⟨Nq101, Kp101, ⟨b_102, kb_103, rfl, z104, f105⟩⟩ := q101
  have N101 := Fr.app N0 Nq101
  refine go _ _ (st101) ?_
  show G (T101.setTop (mkF m 4 #[r' b, i' 0, i' 2, u', u'] [(.ref b_102)]))
  refine go _ _ (fun _ k => XS.astoreN X101.here hx rfl (hb hby own_d41_4) rfl rfl (l' := #[r' b, i' 0, i' 2, r' b_102, u']) rfl (XS.iconst X101.here hx rfl (hb hby own_d41_5) (XS.istore X101.here hx rfl (hb hby own_d41_6) rfl (l' := #[r' b, i' 0, i' 2, r' b_102, i' 0]) rfl (XS.iload X101.here hx rfl (hb hby own_d41_8) rfl (XS.iloadN X101.here hx rfl (hb hby own_d41_10) rfl k))))) ?_
  show G (T101.setTop (mkF m 11 #[r' b, i' 0, i' 2, r' b_102, i' 0] [(.int 2), (.int 0)]))
  refine go _ _ (fun _ k => XS.icmpNo X101.here hx rfl (hb hby own_d41_11) rfl (by decide) k) ?_
  show G (T101.setTop (mkF m 14 #[r' b, i' 0, i' 2, r' b_102, i' 0] []))
  refine go _ _ (fun _ k => XS.aloadN X101.here hx rfl (hb hby own_d41_14) rfl rfl (XS.iload X101.here hx rfl (hb hby own_d41_15) rfl (XS.aloadN X101.here hx rfl (hb hby own_d41_17) rfl rfl (XS.iloadN X101.here hx rfl (hb hby own_d41_18) rfl k)))) ?_
  show G (T101.setTop (mkF m 19 #[r' b, i' 0, i' 2, r' b_102, i' 0] [(.int 0), (.ref b), (.int 0), (.ref b_102)]))
  have K107 : Keep h0 T101.heap [] := (Keep.refl h0 []).trans Kp101 all0
  have F108 : Arv Z T101.heap b kc .char (2 : Int32) [(.int x1), (.int x2)] (.int (0 : Int32)) := (Ab.keep K107 nin0)
  obtain ⟨cl106, Ar106, q106, S106, M106, H106, U106⟩ := id F108
  refine go _ _ (fun _ k => X101.caload hx (j := (0 : Int32)) (v := (.int x1)) Ar106.1 (State.isArrayOf_alike hZ.alike Ar106.2.1) Ar106.2.2 (inb_of S106 ⟨by decide, by decide⟩) (Has.at H106 (inb_of S106 ⟨by decide, by decide⟩) rfl) (g := (mkF m 19 #[r' b, i' 0, i' 2, r' b_102, i' 0] [(.int 0), (.ref b), (.int 0), (.ref b_102)])) rfl rfl (hb hby own_d41_19) _ k) ?_
  have F110 : Old Z n0 T101.heap := (Xo.keep K107 all0)
  have Z111 : h0.size ≤ T101.heap.size := Kp101.1
  obtain ⟨rv109, T109, L109, X109, q109, st109⟩ := own_st X101 hx hZ (y := (⟨"java/lang/StringUTF16", "putChar", "([BII)V"⟩ : MethodName)) hown (ow hw 211 rfl) (ow hw 212 rfl) (ow hw 196 rfl) (ow hw 213 rfl) (by decide) (own_bkN (W := 0) (rm44 l Z a0 hw z0 fm0 gl [] b_102 (0 : Int32) x1 kb_103 (4 : Int32) ([] : List Int32) T101.heap n0 (Nat.le_trans Z0 Z111) F110 f105 rfl (show 2 * ([] : List Int32).length + 2 ≤ 4 by simp only [List.length_append, List.length_cons, List.length_nil] <;> omega) (by simp only [List.length_append, List.length_cons, List.length_nil] <;> omega) (Nat.le_trans Z0 z104)) hZ (ow hw 213 rfl) (ow hw 196 rfl) (by decide) (by decide)) rfl (g := (mkF m 20 #[r' b, i' 0, i' 2, r' b_102, i' 0] [(.int x1), (.int 0), (.ref b_102)])) rfl (by rw [hml]; rfl) (argsL := [(.ref b_102), (.int (0 : Int32)), (.int x1)]) (rest := []) rfl (lenOf own_pd6 rfl) rfl (by show 2 * 0 + _ ≤ _; exact Nat.le_of_eq rfl) (hb hby own_d41_20) (by decide) (by decide)
  obtain ⟨Nq109, Kp109, ⟨rfl, f112⟩⟩ := q109
  have N109 := Fr.app N101 Nq109
  refine go _ _ (st109) ?_
  show G (T109.setTop (mkF m 23 #[r' b, i' 0, i' 2, r' b_102, i' 0] []))
  refine go _ _ (fun _ k => XS.iinc X109.here hx rfl (hb hby own_d41_23) rfl (l' := #[r' b, i' 1, i' 2, r' b_102, i' 0]) rfl (XS.iinc X109.here hx rfl (hb hby own_d41_26) rfl (l' := #[r' b, i' 1, i' 2, r' b_102, i' 1]) rfl k)) ?_
  show G (T109.setTop (mkF m 29 #[r' b, i' 1, i' 2, r' b_102, i' 1] []))
  refine go _ _ (fun _ k => XS.goto X109.here hx rfl (pc0 := 29) (pc' := 8) rfl (hb hby own_d41_29) (by decide) (by decide) k) ?_
  show G (T109.setTop (mkF m 8 #[r' b, i' 1, i' 2, r' b_102, i' 1] []))
  refine go _ _ (fun _ k => XS.iload X109.here hx rfl (hb hby own_d41_8) rfl (XS.iloadN X109.here hx rfl (hb hby own_d41_10) rfl k)) ?_
  show G (T109.setTop (mkF m 11 #[r' b, i' 1, i' 2, r' b_102, i' 1] [(.int 2), (.int 1)]))
  refine go _ _ (fun _ k => XS.icmpNo X109.here hx rfl (hb hby own_d41_11) rfl (by decide) k) ?_
  show G (T109.setTop (mkF m 14 #[r' b, i' 1, i' 2, r' b_102, i' 1] []))
  refine go _ _ (fun _ k => XS.aloadN X109.here hx rfl (hb hby own_d41_14) rfl rfl (XS.iload X109.here hx rfl (hb hby own_d41_15) rfl (XS.aloadN X109.here hx rfl (hb hby own_d41_17) rfl rfl (XS.iloadN X109.here hx rfl (hb hby own_d41_18) rfl k)))) ?_
  show G (T109.setTop (mkF m 19 #[r' b, i' 1, i' 2, r' b_102, i' 1] [(.int 1), (.ref b), (.int 1), (.ref b_102)]))
  have K114 : Keep T101.heap T109.heap [b_102] := (Keep.refl T101.heap [b_102]).trans Kp109 (allS (Or.inl (List.mem_of_getElem? (i := 0) rfl)) all0)
  have F115 : Arv Z T109.heap b kc .char (2 : Int32) [(.int x1), (.int x2)] (.int (0 : Int32)) := (F108.keep K114 (ninS (Nat.ne_of_lt (Nat.lt_of_lt_of_le Ab.lt z104)) nin0))
  obtain ⟨cl113, Ar113, q113, S113, M113, H113, U113⟩ := id F115
  refine go _ _ (fun _ k => X109.caload hx (j := (1 : Int32)) (v := (.int x2)) Ar113.1 (State.isArrayOf_alike hZ.alike Ar113.2.1) Ar113.2.2 (inb_of S113 ⟨by decide, by decide⟩) (Has.at H113 (inb_of S113 ⟨by decide, by decide⟩) rfl) (g := (mkF m 19 #[r' b, i' 1, i' 2, r' b_102, i' 1] [(.int 1), (.ref b), (.int 1), (.ref b_102)])) rfl rfl (hb hby own_d41_19) _ k) ?_
  have F117 : Old Z n0 T109.heap := (F110.keep K114 (allS (Nat.le_trans Z0 z104) all0))
  have Z118 : h0.size ≤ T109.heap.size := Nat.le_trans Z111 Kp109.1
  obtain ⟨rv116, T116, L116, X116, q116, st116⟩ := own_st X109 hx hZ (y := (⟨"java/lang/StringUTF16", "putChar", "([BII)V"⟩ : MethodName)) hown (ow hw 211 rfl) (ow hw 212 rfl) (ow hw 196 rfl) (ow hw 213 rfl) (by decide) (own_bkN (W := 0) (rm44 l Z a0 hw z0 fm0 gl [] b_102 (1 : Int32) x2 kb_103 (4 : Int32) (([] : List Int32) ++ [x1]) T109.heap n0 (Nat.le_trans Z0 Z118) F117 f112 rfl (show 2 * (([] : List Int32) ++ [x1]).length + 2 ≤ 4 by simp only [List.length_append, List.length_cons, List.length_nil] <;> omega) (by simp only [List.length_append, List.length_cons, List.length_nil] <;> omega) (Nat.le_trans Z0 z104)) hZ (ow hw 213 rfl) (ow hw 196 rfl) (by decide) (by decide)) rfl (g := (mkF m 20 #[r' b, i' 1, i' 2, r' b_102, i' 1] [(.int x2), (.int 1), (.ref b_102)])) rfl (by rw [hml]; rfl) (argsL := [(.ref b_102), (.int (1 : Int32)), (.int x2)]) (rest := []) rfl (lenOf own_pd6 rfl) rfl (by show 2 * 0 + _ ≤ _; exact Nat.le_of_eq rfl) (hb hby own_d41_20) (by decide) (by decide)
  obtain ⟨Nq116, Kp116, ⟨rfl, f119⟩⟩ := q116
  have N116 := Fr.app N109 Nq116
  refine go _ _ (st116) ?_
  show G (T116.setTop (mkF m 23 #[r' b, i' 1, i' 2, r' b_102, i' 1] []))
  refine go _ _ (fun _ k => XS.iinc X116.here hx rfl (hb hby own_d41_23) rfl (l' := #[r' b, i' 2, i' 2, r' b_102, i' 1]) rfl (XS.iinc X116.here hx rfl (hb hby own_d41_26) rfl (l' := #[r' b, i' 2, i' 2, r' b_102, i' 2]) rfl k)) ?_
  show G (T116.setTop (mkF m 29 #[r' b, i' 2, i' 2, r' b_102, i' 2] []))
  refine go _ _ (fun _ k => XS.goto X116.here hx rfl (pc0 := 29) (pc' := 8) rfl (hb hby own_d41_29) (by decide) (by decide) k) ?_
  show G (T116.setTop (mkF m 8 #[r' b, i' 2, i' 2, r' b_102, i' 2] []))
  refine go _ _ (fun _ k => XS.iload X116.here hx rfl (hb hby own_d41_8) rfl (XS.iloadN X116.here hx rfl (hb hby own_d41_10) rfl k)) ?_
  show G (T116.setTop (mkF m 11 #[r' b, i' 2, i' 2, r' b_102, i' 2] [(.int 2), (.int 2)]))
  refine go _ _ (fun _ k => XS.icmpYes X116.here hx rfl (pc0 := 11) (pc' := 32) rfl (hb hby own_d41_11) rfl (by decide) (by decide) (by decide) k) ?_
  show G (T116.setTop (mkF m 32 #[r' b, i' 2, i' 2, r' b_102, i' 2] []))
  refine go _ _ (fun _ k => XS.aloadN X116.here hx rfl (hb hby own_d41_32) rfl rfl k) ?_
  show G (T116.setTop (mkF m 33 #[r' b, i' 2, i' 2, r' b_102, i' 2] [(.ref b_102)]))
  have K120 : Keep h0 T109.heap [] := K107.trans Kp109 (allS (Or.inr z104) all0)
  have K121 : Keep h0 T116.heap [] := K120.trans Kp116 (allS (Or.inr z104) all0)
  refine fin T116 _ _ _ (some (.ref b_102)) X116 (fun q => nomatch q) (by decide) (by decide) ⟨N116, K121, ⟨b_102, kb_103, rfl, z104, f119⟩⟩ _ (own_retA X116 hx hret rfl rfl rfl (hb hby own_d41_33))
theorem own_d40_0 : decode jdk_52_method_21_code 0 = .ok (.iconst 0, 1) := by decide +kernel
theorem own_d40_1 : decode jdk_52_method_21_code 1 = .ok (.istore 5, 2) := by decide +kernel
theorem own_d40_3 : decode jdk_52_method_21_code 3 = .ok (.iload 5, 2) := by decide +kernel
theorem own_d40_5 : decode jdk_52_method_21_code 5 = .ok (.iload 4, 2) := by decide +kernel
theorem own_d40_7 : decode jdk_52_method_21_code 7 = .ok (.if_icmp .ge 37, 3) := by decide +kernel
theorem own_d40_10 : decode jdk_52_method_21_code 10 = .ok (.aload_n 0, 1) := by decide +kernel
theorem own_d40_11 : decode jdk_52_method_21_code 11 = .ok (.iload_n 1, 1) := by decide +kernel
theorem own_d40_12 : decode jdk_52_method_21_code 12 = .ok (.caload, 1) := by decide +kernel
theorem own_d40_13 : decode jdk_52_method_21_code 13 = .ok (.istore 6, 2) := by decide +kernel
theorem own_d40_15 : decode jdk_52_method_21_code 15 = .ok (.iload 6, 2) := by decide +kernel
theorem own_d40_17 : decode jdk_52_method_21_code 17 = .ok (.sipush 255, 3) := by decide +kernel
theorem own_d40_20 : decode jdk_52_method_21_code 20 = .ok (.if_icmp .le 6, 3) := by decide +kernel
theorem own_d40_23 : decode jdk_52_method_21_code 23 = .ok (.iload 5, 2) := by decide +kernel
theorem own_d40_25 : decode jdk_52_method_21_code 25 = .ok (.ireturn, 1) := by decide +kernel
theorem own_d40_26 : decode jdk_52_method_21_code 26 = .ok (.aload_n 2, 1) := by decide +kernel
theorem own_d40_27 : decode jdk_52_method_21_code 27 = .ok (.iload_n 3, 1) := by decide +kernel
theorem own_d40_28 : decode jdk_52_method_21_code 28 = .ok (.iload 6, 2) := by decide +kernel
theorem own_d40_30 : decode jdk_52_method_21_code 30 = .ok (.i2b, 1) := by decide +kernel
theorem own_d40_31 : decode jdk_52_method_21_code 31 = .ok (.bastore, 1) := by decide +kernel
theorem own_d40_32 : decode jdk_52_method_21_code 32 = .ok (.iinc 1 1, 3) := by decide +kernel
theorem own_d40_35 : decode jdk_52_method_21_code 35 = .ok (.iinc 3 1, 3) := by decide +kernel
theorem own_d40_38 : decode jdk_52_method_21_code 38 = .ok (.iinc 5 1, 3) := by decide +kernel
theorem own_d40_41 : decode jdk_52_method_21_code 41 = .ok (.goto (-38), 3) := by decide +kernel
theorem own_d40_44 : decode jdk_52_method_21_code 44 = .ok (.iload 4, 2) := by decide +kernel
theorem own_d40_46 : decode jdk_52_method_21_code 46 = .ok (.ireturn, 1) := by decide +kernel
set_option maxHeartbeats 4000000 in
theorem own_ef_rm40 (m : MethodId) (x0 : Addr) (x1 : Int32) (x2 : Addr) (x3 : Int32) (x4 : Int32) : entryFrame m #[(.ref x0), (.int x1), (.ref x2), (.int x3), (.int x4)] 7 = mkF m 0 #[.val (.ref x0), .val (.int x1), .val (.ref x2), .val (.int x3), .val (.int x4), .unset, .unset] [] := by rfl
set_option maxRecDepth 65536 in
set_option maxHeartbeats 40000000 in
theorem rm40 (l : Launch) (Z : State) (a0 : Array Value) (hw : ∀ d ∈ tables_1, d.before a0 Z = true) (z0 : Int32) (fm0 : Value) (gl : own_Gl Z z0 fm0) (ws : List Jvm.Cond) (b : Addr) (dd : Addr) (kc : ClassId) (x1 : Int32) (x2 : Int32) (kd : ClassId) (h0 : Heap) (n0 : Nat) (Z0 : n0 ≤ h0.size) (Ab : Arv Z h0 b kc .char (2 : Int32) [(.int x1), (.int x2)] (.int (0 : Int32))) (Ad : Arv Z h0 dd kd .byte (2 : Int32) [(.int (0 : Int32)), (.int (0 : Int32))] (.int (0 : Int32))) (gz_dd : n0 ≤ dd) :
    own_MetN l Z (⟨"java/lang/StringUTF16", "compress", "([CI[BII)I"⟩ : MethodName) jdk_52_method_21_code 7 (some .int) ws ({ frames := 0, cells := 0, slots := 0, locals := 0 } : Room) #[(.ref b), (.int (0 : Int32)), (.ref dd), (.int (0 : Int32)), (.int (2 : Int32))] h0 (fun v h L => Fr n0 L ∧ Keep h0 h [dd] ∧ (((v = some (.int (0 : Int32))) ∧ ((255 : Int32) < x1)) ∨ ((v = some (.int (1 : Int32))) ∧ (¬ (255 : Int32) < x1) ∧ ((255 : Int32) < x2)) ∨ ((v = some (.int (2 : Int32))) ∧ (¬ (255 : Int32) < x1) ∧ (¬ (255 : Int32) < x2) ∧ (Arv Z h dd kd .byte (2 : Int32) [(.int (x1.toInt8.toInt32)), (.int (x2.toInt8.toInt32))] (.int (0 : Int32)))))) := by
  refine own_metN (plainFor_of_name own_pn3) ?_
  intro p e s m below meth c s₁ G hx hby hml hZ hown hnm hret X0 e0 go fin
  obtain ⟨O2, P5, O4, R4, O_ad, O_hi, O_lo⟩ := id gl
  have N0 := Fr.nil n0
  refine go _ _ (fun _ k => castTop (own_ef_rm40 m b (0 : Int32) dd (0 : Int32) (2 : Int32)) k) ?_
  show G (s₁.setTop (mkF m 0 #[r' b, i' 0, r' dd, i' 0, i' 2, u', u'] []))
  refine go _ _ (fun _ k => XS.iconst X0.here hx rfl (hb hby own_d40_0) (XS.istore X0.here hx rfl (hb hby own_d40_1) rfl (l' := #[r' b, i' 0, r' dd, i' 0, i' 2, i' 0, u']) rfl (XS.iload X0.here hx rfl (hb hby own_d40_3) rfl (XS.iload X0.here hx rfl (hb hby own_d40_5) rfl k)))) ?_
  show G (s₁.setTop (mkF m 7 #[r' b, i' 0, r' dd, i' 0, i' 2, i' 0, u'] [(.int 2), (.int 0)]))
  refine go _ _ (fun _ k => XS.icmpNo X0.here hx rfl (hb hby own_d40_7) rfl (by decide) k) ?_
  show G (s₁.setTop (mkF m 10 #[r' b, i' 0, r' dd, i' 0, i' 2, i' 0, u'] []))
  refine go _ _ (fun _ k => XS.aloadN X0.here hx rfl (hb hby own_d40_10) rfl rfl (XS.iloadN X0.here hx rfl (hb hby own_d40_11) rfl k)) ?_
  show G (s₁.setTop (mkF m 12 #[r' b, i' 0, r' dd, i' 0, i' 2, i' 0, u'] [(.int 0), (.ref b)]))
  obtain ⟨cl101, Ar101, q101, S101, M101, H101, U101⟩ := id Ab
  refine go _ _ (fun _ k => X0.caload hx (j := (0 : Int32)) (v := (.int x1)) (by rw [e0]; exact Ar101.1) (State.isArrayOf_alike hZ.alike Ar101.2.1) Ar101.2.2 (inb_of S101 ⟨by decide, by decide⟩) (Has.at H101 (inb_of S101 ⟨by decide, by decide⟩) rfl) (g := (mkF m 12 #[r' b, i' 0, r' dd, i' 0, i' 2, i' 0, u'] [(.int 0), (.ref b)])) rfl rfl (hb hby own_d40_12) _ k) ?_
  show G (s₁.setTop (mkF m 13 #[r' b, i' 0, r' dd, i' 0, i' 2, i' 0, u'] [(.int x1)]))
  refine go _ _ (fun _ k => XS.istore X0.here hx rfl (hb hby own_d40_13) rfl (l' := #[r' b, i' 0, r' dd, i' 0, i' 2, i' 0, i' x1]) rfl (XS.iload X0.here hx rfl (hb hby own_d40_15) rfl (XS.sipush X0.here hx rfl (hb hby own_d40_17) k))) ?_
  show G (s₁.setTop (mkF m 20 #[r' b, i' 0, r' dd, i' 0, i' 2, i' 0, i' x1] [(.int 255), (.int x1)]))
  by_cases hc20_102 : (255 : Int32) < x1
  · refine go _ _ (fun _ k => XS.icmpNo X0.here hx rfl (hb hby own_d40_20) rfl (tlt hc20_102).2.2.2 k) ?_
    show G (s₁.setTop (mkF m 23 #[r' b, i' 0, r' dd, i' 0, i' 2, i' 0, i' x1] []))
    refine go _ _ (fun _ k => XS.iload X0.here hx rfl (hb hby own_d40_23) rfl k) ?_
    show G (s₁.setTop (mkF m 25 #[r' b, i' 0, r' dd, i' 0, i' 2, i' 0, i' x1] [(.int 0)]))
    refine fin s₁ _ _ _ (some (.int (0 : Int32))) X0 (fun q => nomatch q) (by decide) (by decide) (by rw [e0]; exact ⟨N0, (Keep.refl h0 [dd]), (Or.inl ⟨rfl, hc20_102⟩)⟩) _ (own_retI X0 hx hret (hb hby own_d40_25))
  · refine go _ _ (fun _ k => XS.icmpYes X0.here hx rfl (pc0 := 20) (pc' := 26) rfl (hb hby own_d40_20) rfl (flt hc20_102).2.2.2 (by decide) (by decide) k) ?_
    show G (s₁.setTop (mkF m 26 #[r' b, i' 0, r' dd, i' 0, i' 2, i' 0, i' x1] []))
    refine go _ _ (fun _ k => XS.aloadN X0.here hx rfl (hb hby own_d40_26) rfl rfl (XS.iloadN X0.here hx rfl (hb hby own_d40_27) rfl (XS.iload X0.here hx rfl (hb hby own_d40_28) rfl (XS.i2b X0.here hx rfl (hb hby own_d40_30) rfl k)))) ?_
    obtain ⟨cl103, Ar103, q103, S103, M103, H103, U103⟩ := id Ad
    obtain ⟨T103, h103, X103, e103, W103, st103⟩ := stB X0 hx hZ e0 Ar103 (j := (0 : Int32)) (inb_of S103 ⟨by decide, by decide⟩) (g := (mkF m 31 #[r' b, i' 0, r' dd, i' 0, i' 2, i' 0, i' x1] [(.int (x1.toInt8.toInt32)), (.int 0), (.ref dd)])) rfl rfl (hb hby own_d40_31)
    have V103 : Arv Z h103 dd kd .byte (2 : Int32) [(.int (nar .byte (x1.toInt8.toInt32))), (.int (0 : Int32))] (.int (0 : Int32)) := Arv.set Ar103 q103 S103 M103 H103 U103 (fits_nar_byte _) W103 0 rfl (Nat.le_of_ble_eq_true rfl)
    rw [(own_i2b x1)] at V103
    have N103 := Fr.snoc X103 N0 gz_dd
    refine go _ _ (st103) ?_
    show G (T103.setTop (mkF m 32 #[r' b, i' 0, r' dd, i' 0, i' 2, i' 0, i' x1] []))
    refine go _ _ (fun _ k => XS.iinc X103.here hx rfl (hb hby own_d40_32) rfl (l' := #[r' b, i' 1, r' dd, i' 0, i' 2, i' 0, i' x1]) rfl (XS.iinc X103.here hx rfl (hb hby own_d40_35) rfl (l' := #[r' b, i' 1, r' dd, i' 1, i' 2, i' 0, i' x1]) rfl (XS.iinc X103.here hx rfl (hb hby own_d40_38) rfl (l' := #[r' b, i' 1, r' dd, i' 1, i' 2, i' 1, i' x1]) rfl k))) ?_
    show G (T103.setTop (mkF m 41 #[r' b, i' 1, r' dd, i' 1, i' 2, i' 1, i' x1] []))
    refine go _ _ (fun _ k => XS.goto X103.here hx rfl (pc0 := 41) (pc' := 3) rfl (hb hby own_d40_41) (by decide) (by decide) k) ?_
    show G (T103.setTop (mkF m 3 #[r' b, i' 1, r' dd, i' 1, i' 2, i' 1, i' x1] []))
    refine go _ _ (fun _ k => XS.iload X103.here hx rfl (hb hby own_d40_3) rfl (XS.iload X103.here hx rfl (hb hby own_d40_5) rfl k)) ?_
    show G (T103.setTop (mkF m 7 #[r' b, i' 1, r' dd, i' 1, i' 2, i' 1, i' x1] [(.int 2), (.int 1)]))
    refine go _ _ (fun _ k => XS.icmpNo X103.here hx rfl (hb hby own_d40_7) rfl (by decide) k) ?_
    show G (T103.setTop (mkF m 10 #[r' b, i' 1, r' dd, i' 1, i' 2, i' 1, i' x1] []))
    refine go _ _ (fun _ k => XS.aloadN X103.here hx rfl (hb hby own_d40_10) rfl rfl (XS.iloadN X103.here hx rfl (hb hby own_d40_11) rfl k)) ?_
    show G (T103.setTop (mkF m 12 #[r' b, i' 1, r' dd, i' 1, i' 2, i' 1, i' x1] [(.int 1), (.ref b)]))
    have K105 : Keep h0 h103 [dd] := (Keep.refl h0 [dd]).wr W103 (Or.inl (List.mem_of_getElem? (i := 0) rfl))
    have ne106 : b ≠ dd := own_neA Ab Ad (by decide)
    have F107 : Arv Z h103 b kc .char (2 : Int32) [(.int x1), (.int x2)] (.int (0 : Int32)) := (Ab.keep K105 (ninS ne106 nin0))
    obtain ⟨cl104, Ar104, q104, S104, M104, H104, U104⟩ := id F107
    refine go _ _ (fun _ k => X103.caload hx (j := (1 : Int32)) (v := (.int x2)) (by rw [e103]; exact Ar104.1) (State.isArrayOf_alike hZ.alike Ar104.2.1) Ar104.2.2 (inb_of S104 ⟨by decide, by decide⟩) (Has.at H104 (inb_of S104 ⟨by decide, by decide⟩) rfl) (g := (mkF m 12 #[r' b, i' 1, r' dd, i' 1, i' 2, i' 1, i' x1] [(.int 1), (.ref b)])) rfl rfl (hb hby own_d40_12) _ k) ?_
    show G (T103.setTop (mkF m 13 #[r' b, i' 1, r' dd, i' 1, i' 2, i' 1, i' x1] [(.int x2)]))
    refine go _ _ (fun _ k => XS.istore X103.here hx rfl (hb hby own_d40_13) rfl (l' := #[r' b, i' 1, r' dd, i' 1, i' 2, i' 1, i' x2]) rfl (XS.iload X103.here hx rfl (hb hby own_d40_15) rfl (XS.sipush X103.here hx rfl (hb hby own_d40_17) k))) ?_
    show G (T103.setTop (mkF m 20 #[r' b, i' 1, r' dd, i' 1, i' 2, i' 1, i' x2] [(.int 255), (.int x2)]))
    by_cases hc20_108 : (255 : Int32) < x2
    · refine go _ _ (fun _ k => XS.icmpNo X103.here hx rfl (hb hby own_d40_20) rfl (tlt hc20_108).2.2.2 k) ?_
      show G (T103.setTop (mkF m 23 #[r' b, i' 1, r' dd, i' 1, i' 2, i' 1, i' x2] []))
      refine go _ _ (fun _ k => XS.iload X103.here hx rfl (hb hby own_d40_23) rfl k) ?_
      show G (T103.setTop (mkF m 25 #[r' b, i' 1, r' dd, i' 1, i' 2, i' 1, i' x2] [(.int 1)]))
      refine fin T103 _ _ _ (some (.int (1 : Int32))) X103 (fun q => nomatch q) (by decide) (by decide) (by rw [e103]; exact ⟨N103, K105, (Or.inr (Or.inl ⟨rfl, hc20_102, hc20_108⟩))⟩) _ (own_retI X103 hx hret (hb hby own_d40_25))
    · refine go _ _ (fun _ k => XS.icmpYes X103.here hx rfl (pc0 := 20) (pc' := 26) rfl (hb hby own_d40_20) rfl (flt hc20_108).2.2.2 (by decide) (by decide) k) ?_
      show G (T103.setTop (mkF m 26 #[r' b, i' 1, r' dd, i' 1, i' 2, i' 1, i' x2] []))
      refine go _ _ (fun _ k => XS.aloadN X103.here hx rfl (hb hby own_d40_26) rfl rfl (XS.iloadN X103.here hx rfl (hb hby own_d40_27) rfl (XS.iload X103.here hx rfl (hb hby own_d40_28) rfl (XS.i2b X103.here hx rfl (hb hby own_d40_30) rfl k)))) ?_
      obtain ⟨cl109, Ar109, q109, S109, M109, H109, U109⟩ := id V103
      obtain ⟨T109, h109, X109, e109, W109, st109⟩ := stB X103 hx hZ e103 Ar109 (j := (1 : Int32)) (inb_of S109 ⟨by decide, by decide⟩) (g := (mkF m 31 #[r' b, i' 1, r' dd, i' 1, i' 2, i' 1, i' x2] [(.int (x2.toInt8.toInt32)), (.int 1), (.ref dd)])) rfl rfl (hb hby own_d40_31)
      have V109 : Arv Z h109 dd kd .byte (2 : Int32) [(.int (x1.toInt8.toInt32)), (.int (nar .byte (x2.toInt8.toInt32)))] (.int (0 : Int32)) := Arv.set Ar109 q109 S109 M109 H109 U109 (fits_nar_byte _) W109 1 rfl (Nat.le_of_ble_eq_true rfl)
      rw [(own_i2b x2)] at V109
      have N109 := Fr.snoc X109 N103 gz_dd
      refine go _ _ (st109) ?_
      show G (T109.setTop (mkF m 32 #[r' b, i' 1, r' dd, i' 1, i' 2, i' 1, i' x2] []))
      refine go _ _ (fun _ k => XS.iinc X109.here hx rfl (hb hby own_d40_32) rfl (l' := #[r' b, i' 2, r' dd, i' 1, i' 2, i' 1, i' x2]) rfl (XS.iinc X109.here hx rfl (hb hby own_d40_35) rfl (l' := #[r' b, i' 2, r' dd, i' 2, i' 2, i' 1, i' x2]) rfl (XS.iinc X109.here hx rfl (hb hby own_d40_38) rfl (l' := #[r' b, i' 2, r' dd, i' 2, i' 2, i' 2, i' x2]) rfl k))) ?_
      show G (T109.setTop (mkF m 41 #[r' b, i' 2, r' dd, i' 2, i' 2, i' 2, i' x2] []))
      refine go _ _ (fun _ k => XS.goto X109.here hx rfl (pc0 := 41) (pc' := 3) rfl (hb hby own_d40_41) (by decide) (by decide) k) ?_
      show G (T109.setTop (mkF m 3 #[r' b, i' 2, r' dd, i' 2, i' 2, i' 2, i' x2] []))
      refine go _ _ (fun _ k => XS.iload X109.here hx rfl (hb hby own_d40_3) rfl (XS.iload X109.here hx rfl (hb hby own_d40_5) rfl k)) ?_
      show G (T109.setTop (mkF m 7 #[r' b, i' 2, r' dd, i' 2, i' 2, i' 2, i' x2] [(.int 2), (.int 2)]))
      refine go _ _ (fun _ k => XS.icmpYes X109.here hx rfl (pc0 := 7) (pc' := 44) rfl (hb hby own_d40_7) rfl (by decide) (by decide) (by decide) k) ?_
      show G (T109.setTop (mkF m 44 #[r' b, i' 2, r' dd, i' 2, i' 2, i' 2, i' x2] []))
      refine go _ _ (fun _ k => XS.iload X109.here hx rfl (hb hby own_d40_44) rfl k) ?_
      show G (T109.setTop (mkF m 46 #[r' b, i' 2, r' dd, i' 2, i' 2, i' 2, i' x2] [(.int 2)]))
      have K110 : Keep h0 h109 [dd] := K105.wr W109 (Or.inl (List.mem_of_getElem? (i := 0) rfl))
      refine fin T109 _ _ _ (some (.int (2 : Int32))) X109 (fun q => nomatch q) (by decide) (by decide) (by rw [e109]; exact ⟨N109, K110, (Or.inr (Or.inr ⟨rfl, hc20_102, hc20_108, V109⟩))⟩) _ (own_retI X109 hx hret (hb hby own_d40_46))
theorem own_d39_0 : decode jdk_52_method_16_code 0 = .ok (.iload_n 2, 1) := by decide +kernel
theorem own_d39_1 : decode jdk_52_method_16_code 1 = .ok (.newarray .byte, 2) := by decide +kernel
theorem own_d39_3 : decode jdk_52_method_16_code 3 = .ok (.astore_n 3, 1) := by decide +kernel
theorem own_d39_4 : decode jdk_52_method_16_code 4 = .ok (.aload_n 0, 1) := by decide +kernel
theorem own_d39_5 : decode jdk_52_method_16_code 5 = .ok (.iload_n 1, 1) := by decide +kernel
theorem own_d39_6 : decode jdk_52_method_16_code 6 = .ok (.aload_n 3, 1) := by decide +kernel
theorem own_d39_7 : decode jdk_52_method_16_code 7 = .ok (.iconst 0, 1) := by decide +kernel
theorem own_d39_8 : decode jdk_52_method_16_code 8 = .ok (.iload_n 2, 1) := by decide +kernel
theorem own_pd15 : parseMethodDescriptor "([CI[BII)I" = some ⟨[(.array .char), .int, (.array .byte), .int, .int], some .int⟩ := by decide +kernel
theorem own_d39_9 : decode jdk_52_method_16_code 9 = .ok (.invokestatic 115, 3) := by decide +kernel
theorem own_d39_12 : decode jdk_52_method_16_code 12 = .ok (.istore 4, 2) := by decide +kernel
theorem own_d39_14 : decode jdk_52_method_16_code 14 = .ok (.iload 4, 2) := by decide +kernel
theorem own_d39_16 : decode jdk_52_method_16_code 16 = .ok (.iload_n 2, 1) := by decide +kernel
theorem own_d39_17 : decode jdk_52_method_16_code 17 = .ok (.if_icmp .eq 40, 3) := by decide +kernel
theorem own_d39_20 : decode jdk_52_method_16_code 20 = .ok (.aload_n 0, 1) := by decide +kernel
theorem own_d39_21 : decode jdk_52_method_16_code 21 = .ok (.iload_n 1, 1) := by decide +kernel
theorem own_d39_22 : decode jdk_52_method_16_code 22 = .ok (.iload_n 2, 1) := by decide +kernel
theorem own_pd16 : parseMethodDescriptor "([CII)[B" = some ⟨[(.array .char), .int, .int], some (.array .byte)⟩ := by decide +kernel
theorem own_d39_23 : decode jdk_52_method_16_code 23 = .ok (.invokestatic 119, 3) := by decide +kernel
theorem own_d39_26 : decode jdk_52_method_16_code 26 = .ok (.astore 5, 2) := by decide +kernel
theorem own_d39_28 : decode jdk_52_method_16_code 28 = .ok (.aload 5, 2) := by decide +kernel
theorem own_d39_30 : decode jdk_52_method_16_code 30 = .ok (.iload 4, 2) := by decide +kernel
theorem own_d39_32 : decode jdk_52_method_16_code 32 = .ok (.invokestatic 71, 3) := by decide +kernel
theorem own_d39_35 : decode jdk_52_method_16_code 35 = .ok (.sipush 255, 3) := by decide +kernel
theorem own_d39_38 : decode jdk_52_method_16_code 38 = .ok (.if_icmp .gt 16, 3) := by decide +kernel
theorem own_d39_54 : decode jdk_52_method_16_code 54 = .ok (.aload 5, 2) := by decide +kernel
theorem own_d39_56 : decode jdk_52_method_16_code 56 = .ok (.areturn, 1) := by decide +kernel
theorem own_d39_57 : decode jdk_52_method_16_code 57 = .ok (.aload_n 3, 1) := by decide +kernel
theorem own_d39_58 : decode jdk_52_method_16_code 58 = .ok (.areturn, 1) := by decide +kernel
set_option maxHeartbeats 4000000 in
theorem own_ef_rm39 (m : MethodId) (x0 : Addr) (x1 : Int32) (x2 : Int32) : entryFrame m #[(.ref x0), (.int x1), (.int x2)] 6 = mkF m 0 #[.val (.ref x0), .val (.int x1), .val (.int x2), .unset, .unset, .unset] [] := by rfl
set_option maxRecDepth 65536 in
set_option maxHeartbeats 40000000 in
theorem rm39 (l : Launch) (Z : State) (a0 : Array Value) (hw : ∀ d ∈ tables_1, d.before a0 Z = true) (z0 : Int32) (fm0 : Value) (gl : own_Gl Z z0 fm0) (ws : List Jvm.Cond) (b : Addr) (kc : ClassId) (x1 : Int32) (x2 : Int32) (h0 : Heap) (n0 : Nat) (Z0 : n0 ≤ h0.size) (Xo : Old Z n0 h0) (Ab : Arv Z h0 b kc .char (2 : Int32) [(.int x1), (.int x2)] (.int (0 : Int32))) (hbx : own_bd ([x1, x2] : List Int32)) :
    own_MetN l Z (⟨"java/lang/StringUTF16", "compress", "([CII)[B"⟩ : MethodName) jdk_52_method_16_code 6 (some (.array .byte)) ws ({ frames := 3, cells := 2, slots := 6, locals := 40 } : Room) #[(.ref b), (.int (0 : Int32)), (.int (2 : Int32))] h0 (fun v h L => Fr n0 L ∧ Keep h0 h [] ∧ ((∃ (rb : Addr) (kr : ClassId), (v = some (.ref rb)) ∧ (h0.size ≤ rb) ∧ (¬ (255 : Int32) < x1) ∧ (¬ (255 : Int32) < x2) ∧ (Arv Z h rb kr .byte (2 : Int32) [(.int (x1.toInt8.toInt32)), (.int (x2.toInt8.toInt32))] (.int (0 : Int32)))) ∨ (∃ (rb : Addr) (kr : ClassId), (v = some (.ref rb)) ∧ (h0.size ≤ rb) ∧ (Arv Z h rb kr .byte (4 : Int32) (own_u ([x1, x2] : List Int32)) (.int (0 : Int32)))))) := by
  refine own_metN (plainFor_of_name own_pn3) ?_
  intro p e s m below meth c s₁ G hx hby hml hZ hown hnm hret X0 e0 go fin
  obtain ⟨O2, P5, O4, R4, O_ad, O_hi, O_lo⟩ := id gl
  have N0 := Fr.nil n0
  refine go _ _ (fun _ k => castTop (own_ef_rm39 m b (0 : Int32) (2 : Int32)) k) ?_
  show G (s₁.setTop (mkF m 0 #[r' b, i' 0, i' 2, u', u', u'] []))
  refine go _ _ (fun _ k => XS.iloadN X0.here hx rfl (hb hby own_d39_0) rfl k) ?_
  obtain ⟨T101, h101, k101, X101, e101, E101, A101, st101⟩ := newP X0 hx hZ (ow hw 7 rfl) e0 (g := (mkF m 1 #[r' b, i' 0, i' 2, u', u', u'] [(.int 2)])) rfl (hb hby own_d39_1) rfl (by decide) (cap := 2) (by decide) (by decide) (by decide) (by decide)
  obtain ⟨b101, g101⟩ : ∃ z, z = h0.size := ⟨_, rfl⟩
  rw [← g101] at A101 st101
  have V101 : Arv Z h101 b101 k101 .byte (2 : Int32) [(.int (0 : Int32)), (.int (0 : Int32))] (.int (0 : Int32)) := (Arv.new A101 (by decide)).pad (pad_rep [] (.int (0 : Int32)) 2)
  refine go _ _ (st101) ?_
  show G (T101.setTop (mkF m 3 #[r' b, i' 0, i' 2, u', u', u'] [(.ref b101)]))
  refine go _ _ (fun _ k => XS.astoreN X101.here hx rfl (hb hby own_d39_3) rfl rfl (l' := #[r' b, i' 0, i' 2, r' b101, u', u']) rfl (XS.aloadN X101.here hx rfl (hb hby own_d39_4) rfl rfl (XS.iloadN X101.here hx rfl (hb hby own_d39_5) rfl (XS.aloadN X101.here hx rfl (hb hby own_d39_6) rfl rfl (XS.iconst X101.here hx rfl (hb hby own_d39_7) (XS.iloadN X101.here hx rfl (hb hby own_d39_8) rfl k)))))) ?_
  have K103 : Keep h0 h101 [] := (Keep.refl h0 []).ext E101
  have F104 : Arv Z h101 b kc .char (2 : Int32) [(.int x1), (.int x2)] (.int (0 : Int32)) := (Ab.keep K103 nin0)
  have Z105 : h0.size ≤ h101.size := E101.1
  obtain ⟨rv102, T102, L102, X102, q102, st102⟩ := own_st X101 hx hZ (y := (⟨"java/lang/StringUTF16", "compress", "([CI[BII)I"⟩ : MethodName)) hown (ow hw 198 rfl) (ow hw 199 rfl) (ow hw 196 rfl) (ow hw 200 rfl) (by decide) (own_bkN (W := 0) (rm40 l Z a0 hw z0 fm0 gl [] b b101 kc x1 x2 k101 h101 n0 (Nat.le_trans Z0 Z105) F104 V101 (Nat.le_trans Z0 (Nat.le_of_eq g101.symm))) hZ (ow hw 200 rfl) (ow hw 196 rfl) (by decide) (by decide)) e101 (g := (mkF m 9 #[r' b, i' 0, i' 2, r' b101, u', u'] [(.int 2), (.int 0), (.ref b101), (.int 0), (.ref b)])) rfl (by rw [hml]; rfl) (argsL := [(.ref b), (.int (0 : Int32)), (.ref b101), (.int (0 : Int32)), (.int (2 : Int32))]) (rest := []) rfl (lenOf own_pd15 rfl) rfl (by show 2 * 0 + _ ≤ _; exact Nat.le_of_eq rfl) (hb hby own_d39_9) (by decide) (by decide)
  obtain ⟨Nq102, Kp102, q102⟩ := q102
  have N102 := Fr.app N0 Nq102
  rcases q102 with ⟨rfl, p106⟩ | ⟨rfl, p107, p108⟩ | ⟨rfl, p109, p110, f111⟩
  · refine go _ _ (st102) ?_
    show G (T102.setTop (mkF m 12 #[r' b, i' 0, i' 2, r' b101, u', u'] [(.int 0)]))
    refine go _ _ (fun _ k => XS.istore X102.here hx rfl (hb hby own_d39_12) rfl (l' := #[r' b, i' 0, i' 2, r' b101, i' 0, u']) rfl (XS.iload X102.here hx rfl (hb hby own_d39_14) rfl (XS.iloadN X102.here hx rfl (hb hby own_d39_16) rfl k))) ?_
    show G (T102.setTop (mkF m 17 #[r' b, i' 0, i' 2, r' b101, i' 0, u'] [(.int 2), (.int 0)]))
    refine go _ _ (fun _ k => XS.icmpNo X102.here hx rfl (hb hby own_d39_17) rfl (by decide) k) ?_
    show G (T102.setTop (mkF m 20 #[r' b, i' 0, i' 2, r' b101, i' 0, u'] []))
    refine go _ _ (fun _ k => XS.aloadN X102.here hx rfl (hb hby own_d39_20) rfl rfl (XS.iloadN X102.here hx rfl (hb hby own_d39_21) rfl (XS.iloadN X102.here hx rfl (hb hby own_d39_22) rfl k))) ?_
    have K113 : Keep h0 T102.heap [] := K103.trans Kp102 (allS (Or.inr (Nat.le_of_eq g101.symm)) all0)
    have F114 : Old Z n0 T102.heap := (Xo.keep K113 all0)
    have K115 : Keep h101 T102.heap [b101] := (Keep.refl h101 [b101]).trans Kp102 (allS (Or.inl (List.mem_of_getElem? (i := 0) rfl)) all0)
    have F116 : Arv Z T102.heap b kc .char (2 : Int32) [(.int x1), (.int x2)] (.int (0 : Int32)) := (F104.keep K115 (ninS (Nat.ne_of_lt (Nat.lt_of_lt_of_le Ab.lt (Nat.le_of_eq g101.symm))) nin0))
    have Z117 : h0.size ≤ T102.heap.size := Nat.le_trans Z105 Kp102.1
    obtain ⟨rv112, T112, L112, X112, q112, st112⟩ := own_st X102 hx hZ (y := (⟨"java/lang/StringUTF16", "toBytes", "([CII)[B"⟩ : MethodName)) hown (ow hw 201 rfl) (ow hw 202 rfl) (ow hw 196 rfl) (ow hw 203 rfl) (by decide) (own_bkN (W := 0) (rm41 l Z a0 hw z0 fm0 gl [] b kc x1 x2 T102.heap n0 (Nat.le_trans Z0 Z117) F114 F116) hZ (ow hw 203 rfl) (ow hw 196 rfl) (by decide) (by decide)) rfl (g := (mkF m 23 #[r' b, i' 0, i' 2, r' b101, i' 0, u'] [(.int 2), (.int 0), (.ref b)])) rfl (by rw [hml]; rfl) (argsL := [(.ref b), (.int (0 : Int32)), (.int (2 : Int32))]) (rest := []) rfl (lenOf own_pd16 rfl) rfl (by show 2 * 0 + _ ≤ _; exact Nat.le_of_eq rfl) (hb hby own_d39_23) (by decide) (by decide)
    obtain ⟨Nq112, Kp112, ⟨rb_118, kr_119, rfl, z120, f121⟩⟩ := q112
    have N112 := Fr.app N102 Nq112
    refine go _ _ (st112) ?_
    show G (T112.setTop (mkF m 26 #[r' b, i' 0, i' 2, r' b101, i' 0, u'] [(.ref rb_118)]))
    refine go _ _ (fun _ k => XS.astore X112.here hx rfl (hb hby own_d39_26) rfl rfl (l' := #[r' b, i' 0, i' 2, r' b101, i' 0, r' rb_118]) rfl (XS.aload X112.here hx rfl (hb hby own_d39_28) rfl rfl (XS.iload X112.here hx rfl (hb hby own_d39_30) rfl k))) ?_
    have K123 : Keep T102.heap T112.heap [] := (Keep.refl T102.heap []).trans Kp112 all0
    have F124 : Old Z n0 T112.heap := (F114.keep K123 all0)
    have Z125 : h0.size ≤ T112.heap.size := Nat.le_trans Z117 Kp112.1
    obtain ⟨rv122, T122, L122, X122, q122, st122⟩ := own_st X112 hx hZ (y := (⟨"java/lang/StringUTF16", "getChar", "([BI)C"⟩ : MethodName)) hown (ow hw 217 rfl) (ow hw 218 rfl) (ow hw 196 rfl) (ow hw 219 rfl) (by decide) (own_bkN (W := 0) (rm45 l Z a0 hw z0 fm0 gl [] rb_118 (0 : Int32) kr_119 (4 : Int32) ([x1, x2] : List Int32) 0 x1 T112.heap n0 (Nat.le_trans Z0 Z125) F124 f121 rfl rfl hbx (Nat.le_of_ble_eq_true rfl) (Nat.le_of_ble_eq_true rfl)) hZ (ow hw 219 rfl) (ow hw 196 rfl) (by decide) (by decide)) rfl (g := (mkF m 32 #[r' b, i' 0, i' 2, r' b101, i' 0, r' rb_118] [(.int 0), (.ref rb_118)])) rfl (by rw [hml]; rfl) (argsL := [(.ref rb_118), (.int (0 : Int32))]) (rest := []) rfl (lenOf own_pd7 rfl) rfl (by show 2 * 0 + _ ≤ _; exact Nat.le_of_eq rfl) (hb hby own_d39_32) (by decide) (by decide)
    obtain ⟨Nq122, e122, rfl⟩ := q122
    have N122 := Fr.app N112 Nq122
    refine go _ _ (st122) ?_
    show G (T122.setTop (mkF m 35 #[r' b, i' 0, i' 2, r' b101, i' 0, r' rb_118] [(.int x1)]))
    refine go _ _ (fun _ k => XS.sipush X122.here hx rfl (hb hby own_d39_35) k) ?_
    show G (T122.setTop (mkF m 38 #[r' b, i' 0, i' 2, r' b101, i' 0, r' rb_118] [(.int 255), (.int x1)]))
    refine go _ _ (fun _ k => XS.icmpYes X122.here hx rfl (pc0 := 38) (pc' := 54) rfl (hb hby own_d39_38) rfl (tlt p106).2.2.1 (by decide) (by decide) k) ?_
    show G (T122.setTop (mkF m 54 #[r' b, i' 0, i' 2, r' b101, i' 0, r' rb_118] []))
    refine go _ _ (fun _ k => XS.aload X122.here hx rfl (hb hby own_d39_54) rfl rfl k) ?_
    show G (T122.setTop (mkF m 56 #[r' b, i' 0, i' 2, r' b101, i' 0, r' rb_118] [(.ref rb_118)]))
    have K126 : Keep h0 T112.heap [] := K113.trans Kp112 all0
    refine fin T122 _ _ _ (some (.ref rb_118)) X122 (fun q => nomatch q) (by decide) (by decide) (by rw [e122]; exact ⟨N122, K126, (Or.inr ⟨rb_118, kr_119, rfl, (Nat.le_trans Z117 z120), f121⟩)⟩) _ (own_retA X122 hx hret rfl rfl rfl (hb hby own_d39_56))
  · refine go _ _ (st102) ?_
    show G (T102.setTop (mkF m 12 #[r' b, i' 0, i' 2, r' b101, u', u'] [(.int 1)]))
    refine go _ _ (fun _ k => XS.istore X102.here hx rfl (hb hby own_d39_12) rfl (l' := #[r' b, i' 0, i' 2, r' b101, i' 1, u']) rfl (XS.iload X102.here hx rfl (hb hby own_d39_14) rfl (XS.iloadN X102.here hx rfl (hb hby own_d39_16) rfl k))) ?_
    show G (T102.setTop (mkF m 17 #[r' b, i' 0, i' 2, r' b101, i' 1, u'] [(.int 2), (.int 1)]))
    refine go _ _ (fun _ k => XS.icmpNo X102.here hx rfl (hb hby own_d39_17) rfl (by decide) k) ?_
    show G (T102.setTop (mkF m 20 #[r' b, i' 0, i' 2, r' b101, i' 1, u'] []))
    refine go _ _ (fun _ k => XS.aloadN X102.here hx rfl (hb hby own_d39_20) rfl rfl (XS.iloadN X102.here hx rfl (hb hby own_d39_21) rfl (XS.iloadN X102.here hx rfl (hb hby own_d39_22) rfl k))) ?_
    have K128 : Keep h0 T102.heap [] := K103.trans Kp102 (allS (Or.inr (Nat.le_of_eq g101.symm)) all0)
    have F129 : Old Z n0 T102.heap := (Xo.keep K128 all0)
    have K130 : Keep h101 T102.heap [b101] := (Keep.refl h101 [b101]).trans Kp102 (allS (Or.inl (List.mem_of_getElem? (i := 0) rfl)) all0)
    have F131 : Arv Z T102.heap b kc .char (2 : Int32) [(.int x1), (.int x2)] (.int (0 : Int32)) := (F104.keep K130 (ninS (Nat.ne_of_lt (Nat.lt_of_lt_of_le Ab.lt (Nat.le_of_eq g101.symm))) nin0))
    have Z132 : h0.size ≤ T102.heap.size := Nat.le_trans Z105 Kp102.1
    obtain ⟨rv127, T127, L127, X127, q127, st127⟩ := own_st X102 hx hZ (y := (⟨"java/lang/StringUTF16", "toBytes", "([CII)[B"⟩ : MethodName)) hown (ow hw 201 rfl) (ow hw 202 rfl) (ow hw 196 rfl) (ow hw 203 rfl) (by decide) (own_bkN (W := 0) (rm41 l Z a0 hw z0 fm0 gl [] b kc x1 x2 T102.heap n0 (Nat.le_trans Z0 Z132) F129 F131) hZ (ow hw 203 rfl) (ow hw 196 rfl) (by decide) (by decide)) rfl (g := (mkF m 23 #[r' b, i' 0, i' 2, r' b101, i' 1, u'] [(.int 2), (.int 0), (.ref b)])) rfl (by rw [hml]; rfl) (argsL := [(.ref b), (.int (0 : Int32)), (.int (2 : Int32))]) (rest := []) rfl (lenOf own_pd16 rfl) rfl (by show 2 * 0 + _ ≤ _; exact Nat.le_of_eq rfl) (hb hby own_d39_23) (by decide) (by decide)
    obtain ⟨Nq127, Kp127, ⟨rb_133, kr_134, rfl, z135, f136⟩⟩ := q127
    have N127 := Fr.app N102 Nq127
    refine go _ _ (st127) ?_
    show G (T127.setTop (mkF m 26 #[r' b, i' 0, i' 2, r' b101, i' 1, u'] [(.ref rb_133)]))
    refine go _ _ (fun _ k => XS.astore X127.here hx rfl (hb hby own_d39_26) rfl rfl (l' := #[r' b, i' 0, i' 2, r' b101, i' 1, r' rb_133]) rfl (XS.aload X127.here hx rfl (hb hby own_d39_28) rfl rfl (XS.iload X127.here hx rfl (hb hby own_d39_30) rfl k))) ?_
    have K138 : Keep T102.heap T127.heap [] := (Keep.refl T102.heap []).trans Kp127 all0
    have F139 : Old Z n0 T127.heap := (F129.keep K138 all0)
    have Z140 : h0.size ≤ T127.heap.size := Nat.le_trans Z132 Kp127.1
    obtain ⟨rv137, T137, L137, X137, q137, st137⟩ := own_st X127 hx hZ (y := (⟨"java/lang/StringUTF16", "getChar", "([BI)C"⟩ : MethodName)) hown (ow hw 217 rfl) (ow hw 218 rfl) (ow hw 196 rfl) (ow hw 219 rfl) (by decide) (own_bkN (W := 0) (rm45 l Z a0 hw z0 fm0 gl [] rb_133 (1 : Int32) kr_134 (4 : Int32) ([x1, x2] : List Int32) 1 x2 T127.heap n0 (Nat.le_trans Z0 Z140) F139 f136 rfl rfl hbx (Nat.le_of_ble_eq_true rfl) (Nat.le_of_ble_eq_true rfl)) hZ (ow hw 219 rfl) (ow hw 196 rfl) (by decide) (by decide)) rfl (g := (mkF m 32 #[r' b, i' 0, i' 2, r' b101, i' 1, r' rb_133] [(.int 1), (.ref rb_133)])) rfl (by rw [hml]; rfl) (argsL := [(.ref rb_133), (.int (1 : Int32))]) (rest := []) rfl (lenOf own_pd7 rfl) rfl (by show 2 * 0 + _ ≤ _; exact Nat.le_of_eq rfl) (hb hby own_d39_32) (by decide) (by decide)
    obtain ⟨Nq137, e137, rfl⟩ := q137
    have N137 := Fr.app N127 Nq137
    refine go _ _ (st137) ?_
    show G (T137.setTop (mkF m 35 #[r' b, i' 0, i' 2, r' b101, i' 1, r' rb_133] [(.int x2)]))
    refine go _ _ (fun _ k => XS.sipush X137.here hx rfl (hb hby own_d39_35) k) ?_
    show G (T137.setTop (mkF m 38 #[r' b, i' 0, i' 2, r' b101, i' 1, r' rb_133] [(.int 255), (.int x2)]))
    refine go _ _ (fun _ k => XS.icmpYes X137.here hx rfl (pc0 := 38) (pc' := 54) rfl (hb hby own_d39_38) rfl (tlt p108).2.2.1 (by decide) (by decide) k) ?_
    show G (T137.setTop (mkF m 54 #[r' b, i' 0, i' 2, r' b101, i' 1, r' rb_133] []))
    refine go _ _ (fun _ k => XS.aload X137.here hx rfl (hb hby own_d39_54) rfl rfl k) ?_
    show G (T137.setTop (mkF m 56 #[r' b, i' 0, i' 2, r' b101, i' 1, r' rb_133] [(.ref rb_133)]))
    have K141 : Keep h0 T127.heap [] := K128.trans Kp127 all0
    refine fin T137 _ _ _ (some (.ref rb_133)) X137 (fun q => nomatch q) (by decide) (by decide) (by rw [e137]; exact ⟨N137, K141, (Or.inr ⟨rb_133, kr_134, rfl, (Nat.le_trans Z132 z135), f136⟩)⟩) _ (own_retA X137 hx hret rfl rfl rfl (hb hby own_d39_56))
  · refine go _ _ (st102) ?_
    show G (T102.setTop (mkF m 12 #[r' b, i' 0, i' 2, r' b101, u', u'] [(.int 2)]))
    refine go _ _ (fun _ k => XS.istore X102.here hx rfl (hb hby own_d39_12) rfl (l' := #[r' b, i' 0, i' 2, r' b101, i' 2, u']) rfl (XS.iload X102.here hx rfl (hb hby own_d39_14) rfl (XS.iloadN X102.here hx rfl (hb hby own_d39_16) rfl k))) ?_
    show G (T102.setTop (mkF m 17 #[r' b, i' 0, i' 2, r' b101, i' 2, u'] [(.int 2), (.int 2)]))
    refine go _ _ (fun _ k => XS.icmpYes X102.here hx rfl (pc0 := 17) (pc' := 57) rfl (hb hby own_d39_17) rfl (by decide) (by decide) (by decide) k) ?_
    show G (T102.setTop (mkF m 57 #[r' b, i' 0, i' 2, r' b101, i' 2, u'] []))
    refine go _ _ (fun _ k => XS.aloadN X102.here hx rfl (hb hby own_d39_57) rfl rfl k) ?_
    show G (T102.setTop (mkF m 58 #[r' b, i' 0, i' 2, r' b101, i' 2, u'] [(.ref b101)]))
    have K142 : Keep h0 T102.heap [] := K103.trans Kp102 (allS (Or.inr (Nat.le_of_eq g101.symm)) all0)
    refine fin T102 _ _ _ (some (.ref b101)) X102 (fun q => nomatch q) (by decide) (by decide) ⟨N102, K142, (Or.inl ⟨b101, k101, rfl, (Nat.le_of_eq g101.symm), p109, p110, f111⟩)⟩ _ (own_retA X102 hx hret rfl rfl rfl (hb hby own_d39_58))
theorem own_d38_0 : decode jdk_42_method_149_code 0 = .ok (.aload_n 0, 1) := by decide +kernel
theorem own_d38_1 : decode jdk_42_method_149_code 1 = .ok (.invokespecial 1, 3) := by decide +kernel
theorem own_d38_4 : decode jdk_42_method_149_code 4 = .ok (.iload_n 3, 1) := by decide +kernel
theorem own_d38_5 : decode jdk_42_method_149_code 5 = .ok (.ifCond .ne 22, 3) := by decide +kernel
theorem own_d38_27 : decode jdk_42_method_149_code 27 = .ok (.getstatic 38, 3) := by decide +kernel
theorem own_d38_30 : decode jdk_42_method_149_code 30 = .ok (.ifCond .eq 28, 3) := by decide +kernel
theorem own_d38_33 : decode jdk_42_method_149_code 33 = .ok (.aload_n 1, 1) := by decide +kernel
theorem own_d38_34 : decode jdk_42_method_149_code 34 = .ok (.iload_n 2, 1) := by decide +kernel
theorem own_d38_35 : decode jdk_42_method_149_code 35 = .ok (.iload_n 3, 1) := by decide +kernel
theorem own_d38_36 : decode jdk_42_method_149_code 36 = .ok (.invokestatic 177, 3) := by decide +kernel
theorem own_d38_39 : decode jdk_42_method_149_code 39 = .ok (.astore 5, 2) := by decide +kernel
theorem own_d38_41 : decode jdk_42_method_149_code 41 = .ok (.aload_n 0, 1) := by decide +kernel
theorem own_d38_42 : decode jdk_42_method_149_code 42 = .ok (.aload 5, 2) := by decide +kernel
theorem own_d38_44 : decode jdk_42_method_149_code 44 = .ok (.iload_n 3, 1) := by decide +kernel
theorem own_pd17 : parseMethodDescriptor "([BI)B" = some ⟨[(.array .byte), .int], some .byte⟩ := by decide +kernel
theorem own_d38_45 : decode jdk_42_method_149_code 45 = .ok (.invokestatic 47, 3) := by decide +kernel
theorem own_d38_48 : decode jdk_42_method_149_code 48 = .ok (.putfield 15, 3) := by decide +kernel
theorem own_d38_51 : decode jdk_42_method_149_code 51 = .ok (.aload_n 0, 1) := by decide +kernel
theorem own_d38_52 : decode jdk_42_method_149_code 52 = .ok (.aload 5, 2) := by decide +kernel
theorem own_d38_54 : decode jdk_42_method_149_code 54 = .ok (.putfield 9, 3) := by decide +kernel
theorem own_d38_57 : decode jdk_42_method_149_code 57 = .ok (.return_, 1) := by decide +kernel
set_option maxHeartbeats 4000000 in
theorem own_ef_rm38 (m : MethodId) (x0 : Addr) (x1 : Addr) (x2 : Int32) (x3 : Int32) : entryFrame m #[(.ref x0), (.ref x1), (.int x2), (.int x3), .null] 6 = mkF m 0 #[.val (.ref x0), .val (.ref x1), .val (.int x2), .val (.int x3), .val .null, .unset] [] := by rfl
set_option maxRecDepth 65536 in
set_option maxHeartbeats 40000000 in
theorem rm38 (l : Launch) (Z : State) (a0 : Array Value) (hw : ∀ d ∈ tables_1, d.before a0 Z = true) (z0 : Int32) (fm0 : Value) (gl : own_Gl Z z0 fm0) (ws : List Jvm.Cond) (a : Addr) (b : Addr) (kc : ClassId) (x1 : Int32) (x2 : Int32) (h0 : Heap) (n0 : Nat) (Z0 : n0 ≤ h0.size) (Xo : Old Z n0 h0) (Ea : Exa Z h0 a "java/lang/String") (Fv : Fld Z h0 a "java/lang/String" "value" "[B" .null) (Fc : Fld Z h0 a "java/lang/String" "coder" "B" (.int (0 : Int32))) (Ab : Arv Z h0 b kc .char (2 : Int32) [(.int x1), (.int x2)] (.int (0 : Int32))) (hbx : own_bd ([x1, x2] : List Int32)) (gz_a : n0 ≤ a) :
    own_MetN l Z (⟨"java/lang/String", "<init>", "([CIILjava/lang/Void;)V"⟩ : MethodName) jdk_42_method_149_code 6 none ws ({ frames := 4, cells := 2, slots := 6, locals := 57 } : Room) #[(.ref a), (.ref b), (.int (0 : Int32)), (.int (2 : Int32)), .null] h0 (fun v h L => Fr n0 L ∧ Keep h0 h [a] ∧ (((v = none) ∧ (Exa Z h a "java/lang/String") ∧ (own_S Z h a ([x1, x2] : List Int32))))) := by
  refine own_metN (plainFor_of_name own_pn0) ?_
  intro p e s m below meth c s₁ G hx hby hml hZ hown hnm hret X0 e0 go fin
  obtain ⟨O2, P5, O4, R4, O_ad, O_hi, O_lo⟩ := id gl
  have N0 := Fr.nil n0
  refine go _ _ (fun _ k => castTop (own_ef_rm38 m a b (0 : Int32) (2 : Int32)) k) ?_
  show G (s₁.setTop (mkF m 0 #[r' a, r' b, i' 0, i' 2, .val .null, u'] []))
  refine go _ _ (fun _ k => XS.aloadN X0.here hx rfl (hb hby own_d38_0) rfl rfl k) ?_
  obtain ⟨T101, X101, e101, st101⟩ := initO X0 hx hZ hown (ow hw 117 rfl) (ow hw 29 rfl) (ow hw 30 rfl) e0 (g := (mkF m 1 #[r' a, r' b, i' 0, i' 2, .val .null, u'] [(.ref a)])) rfl (by rw [hml]; rfl) rfl (hb hby own_d38_1) (by decide) (W := 0) (by show 2 * 0 + _ ≤ _; exact Nat.le_of_eq rfl) (by decide)
  refine go _ _ (st101) ?_
  show G (T101.setTop (mkF m 4 #[r' a, r' b, i' 0, i' 2, .val .null, u'] []))
  refine go _ _ (fun _ k => XS.iloadN X101.here hx rfl (hb hby own_d38_4) rfl k) ?_
  show G (T101.setTop (mkF m 5 #[r' a, r' b, i' 0, i' 2, .val .null, u'] [(.int 2)]))
  refine go _ _ (fun _ k => XS.ifYes X101.here hx rfl (pc0 := 5) (pc' := 27) rfl (hb hby own_d38_5) rfl (by decide) (by decide) (by decide) k) ?_
  obtain ⟨T102, X102, e102, st102⟩ := getS2 X101 hx hZ (host := "") hown (Or.inl (ow hw 57 rfl)) Via.refl e101 (O2.ext Xo.2) (g := (mkF m 27 #[r' a, r' b, i' 0, i' 2, .val .null, u'] [])) rfl (hb hby own_d38_27)
  refine go _ _ (st102) ?_
  show G (T102.setTop (mkF m 30 #[r' a, r' b, i' 0, i' 2, .val .null, u'] [(.int z0)]))
  refine go _ _ (fun _ k => XS.ifNo X102.here hx rfl (hb hby own_d38_30) rfl ((if0 _ _).trans (feq P5).1) k) ?_
  show G (T102.setTop (mkF m 33 #[r' a, r' b, i' 0, i' 2, .val .null, u'] []))
  refine go _ _ (fun _ k => XS.aloadN X102.here hx rfl (hb hby own_d38_33) rfl rfl (XS.iloadN X102.here hx rfl (hb hby own_d38_34) rfl (XS.iloadN X102.here hx rfl (hb hby own_d38_35) rfl k))) ?_
  obtain ⟨rv103, T103, L103, X103, q103, st103⟩ := own_st X102 hx hZ (y := (⟨"java/lang/StringUTF16", "compress", "([CII)[B"⟩ : MethodName)) hown (ow hw 194 rfl) (ow hw 195 rfl) (ow hw 196 rfl) (ow hw 197 rfl) (by decide) (own_bkN (W := 0) (rm39 l Z a0 hw z0 fm0 gl [] b kc x1 x2 h0 n0 Z0 Xo Ab hbx) hZ (ow hw 197 rfl) (ow hw 196 rfl) (by decide) (by decide)) e102 (g := (mkF m 36 #[r' a, r' b, i' 0, i' 2, .val .null, u'] [(.int 2), (.int 0), (.ref b)])) rfl (by rw [hml]; rfl) (argsL := [(.ref b), (.int (0 : Int32)), (.int (2 : Int32))]) (rest := []) rfl (lenOf own_pd16 rfl) rfl (by show 2 * 0 + _ ≤ _; exact Nat.le_of_eq rfl) (hb hby own_d38_36) (by decide) (by decide)
  obtain ⟨Nq103, Kp103, q103⟩ := q103
  have N103 := Fr.app N0 Nq103
  rcases q103 with ⟨rb_104, kr_105, rfl, z106, p107, p108, f109⟩ | ⟨rb_110, kr_111, rfl, z112, f113⟩
  · refine go _ _ (st103) ?_
    show G (T103.setTop (mkF m 39 #[r' a, r' b, i' 0, i' 2, .val .null, u'] [(.ref rb_104)]))
    refine go _ _ (fun _ k => XS.astore X103.here hx rfl (hb hby own_d38_39) rfl rfl (l' := #[r' a, r' b, i' 0, i' 2, .val .null, r' rb_104]) rfl (XS.aloadN X103.here hx rfl (hb hby own_d38_41) rfl rfl (XS.aload X103.here hx rfl (hb hby own_d38_42) rfl rfl (XS.iloadN X103.here hx rfl (hb hby own_d38_44) rfl k)))) ?_
    have Z115 : h0.size ≤ T103.heap.size := Kp103.1
    obtain ⟨rv114, T114, L114, X114, q114, st114⟩ := own_st X103 hx hZ (y := (⟨"java/lang/StringUTF16", "coderFromArrayLen", "([BI)B"⟩ : MethodName)) hown (ow hw 220 rfl) (ow hw 221 rfl) (ow hw 196 rfl) (ow hw 222 rfl) (by decide) (own_bkN (W := 1) (rmCf0 l Z a0 hw z0 fm0 gl [] rb_104 kr_105 [(.int (x1.toInt8.toInt32)), (.int (x2.toInt8.toInt32))] T103.heap n0 (Nat.le_trans Z0 Z115) f109) hZ (ow hw 222 rfl) (ow hw 196 rfl) (by decide) (by decide)) rfl (g := (mkF m 45 #[r' a, r' b, i' 0, i' 2, .val .null, r' rb_104] [(.int 2), (.ref rb_104), (.ref a)])) rfl (by rw [hml]; rfl) (argsL := [(.ref rb_104), (.int (2 : Int32))]) (rest := [(.ref a)]) rfl (lenOf own_pd17 rfl) rfl (by show 2 * 0 + _ ≤ _; exact Nat.le_of_eq rfl) (hb hby own_d38_45) (by decide) (by decide)
    obtain ⟨Nq114, e114, rfl⟩ := q114
    have N114 := Fr.app N103 Nq114
    refine go _ _ (st114) ?_
    have K117 : Keep h0 T103.heap [] := (Keep.refl h0 []).trans Kp103 all0
    have F118 : Fld Z T103.heap a "java/lang/String" "coder" "B" (.int (0 : Int32)) := (Fc.keep K117 nin0)
    have F119 : Exa Z T103.heap a "java/lang/String" := (Ea.keep K117)
    obtain ⟨T116, h116, X116, e116, W116, st116⟩ := putF X114 hx hZ hown (host := "") (Or.inl (ow hw 58 rfl)) Via.refl e114 F118 F119 (Or.inr ⟨(ow hw 9 rfl), rfl, hnm⟩) (ow hw 6 rfl) (ty := .byte) (by decide) rfl rfl (g := (mkF m 48 #[r' a, r' b, i' 0, i' 2, .val .null, r' rb_104] [(.int 0), (.ref a)])) rfl rfl (hb hby own_d38_48)
    have F120 : Fld Z T103.heap a "java/lang/String" "value" "[B" .null := (Fv.keep K117 nin0)
    have N116 := Fr.snoc X116 N114 gz_a
    refine go _ _ (st116) ?_
    show G (T116.setTop (mkF m 51 #[r' a, r' b, i' 0, i' 2, .val .null, r' rb_104] []))
    refine go _ _ (fun _ k => XS.aloadN X116.here hx rfl (hb hby own_d38_51) rfl rfl (XS.aload X116.here hx rfl (hb hby own_d38_52) rfl rfl k)) ?_
    obtain ⟨T121, h121, X121, e121, W121, st121⟩ := putF X116 hx hZ hown (host := "") (Or.inl (ow hw 51 rfl)) Via.refl e116 (F120.other W116 (Or.inr (RoadKit.slot_ne (t := (.array .byte)) (t' := .byte) (Or.inr (ow hw 8 rfl)) (Or.inr (ow hw 9 rfl)) (by decide) (by decide) (by decide)))) (F119.wr W116) (Or.inr ⟨(ow hw 8 rfl), rfl, hnm⟩) (ow hw 6 rfl) (ty := (.array .byte)) (by decide) rfl rfl (g := (mkF m 54 #[r' a, r' b, i' 0, i' 2, .val .null, r' rb_104] [(.ref rb_104), (.ref a)])) rfl rfl (hb hby own_d38_54)
    have N121 := Fr.snoc X121 N116 gz_a
    refine go _ _ (st121) ?_
    show G (T121.setTop (mkF m 57 #[r' a, r' b, i' 0, i' 2, .val .null, r' rb_104] []))
    have K122 : Keep h0 T103.heap [a] := (Keep.refl h0 [a]).trans Kp103 all0
    have K123 : Keep h0 h116 [a] := K122.wr W116 (Or.inl (List.mem_of_getElem? (i := 0) rfl))
    have K124 : Keep h0 h121 [a] := K123.wr W121 (Or.inl (List.mem_of_getElem? (i := 0) rfl))
    have K125 : Keep T103.heap h116 [a] := (Keep.refl T103.heap [a]).wr W116 (Or.inl (List.mem_of_getElem? (i := 0) rfl))
    have K126 : Keep T103.heap h121 [a] := K125.wr W121 (Or.inl (List.mem_of_getElem? (i := 0) rfl))
    have F127 : Arv Z h121 rb_104 kr_105 .byte (2 : Int32) [(.int (x1.toInt8.toInt32)), (.int (x2.toInt8.toInt32))] (.int (0 : Int32)) := (f109.keep K126 (ninS (Ne.symm (Nat.ne_of_lt (Nat.lt_of_lt_of_le Fc.lt z106))) nin0))
    have Sx : own_S Z h121 a ([x1, x2] : List Int32) := ⟨_, _, ((F119.wr W116).wr W121), ((F120.other W116 (Or.inr (RoadKit.slot_ne (t := (.array .byte)) (t' := .byte) (Or.inr (ow hw 8 rfl)) (Or.inr (ow hw 9 rfl)) (by decide) (by decide) (by decide)))).same W121), hbx, (Nat.le_of_ble_eq_true rfl), (Or.inl ⟨((F118.same W116).other W121 (Or.inr (RoadKit.slot_ne (t := .byte) (t' := (.array .byte)) (Or.inr (ow hw 9 rfl)) (Or.inr (ow hw 8 rfl)) (by decide) (by decide) (by decide)))), F127, (own_b8a (own_b81 p107) (own_b81 p108))⟩)⟩
    refine fin T121 _ _ _ none X121 (fun _ => rfl) (by decide) (by decide) (by rw [e121]; exact ⟨N121, K124, ⟨rfl, ((F119.wr W116).wr W121), Sx⟩⟩) _ (own_retV X121 hx hret (hb hby own_d38_57))
  · refine go _ _ (st103) ?_
    show G (T103.setTop (mkF m 39 #[r' a, r' b, i' 0, i' 2, .val .null, u'] [(.ref rb_110)]))
    refine go _ _ (fun _ k => XS.astore X103.here hx rfl (hb hby own_d38_39) rfl rfl (l' := #[r' a, r' b, i' 0, i' 2, .val .null, r' rb_110]) rfl (XS.aloadN X103.here hx rfl (hb hby own_d38_41) rfl rfl (XS.aload X103.here hx rfl (hb hby own_d38_42) rfl rfl (XS.iloadN X103.here hx rfl (hb hby own_d38_44) rfl k)))) ?_
    have Z129 : h0.size ≤ T103.heap.size := Kp103.1
    obtain ⟨rv128, T128, L128, X128, q128, st128⟩ := own_st X103 hx hZ (y := (⟨"java/lang/StringUTF16", "coderFromArrayLen", "([BI)B"⟩ : MethodName)) hown (ow hw 220 rfl) (ow hw 221 rfl) (ow hw 196 rfl) (ow hw 222 rfl) (by decide) (own_bkN (W := 1) (rmCf1 l Z a0 hw z0 fm0 gl [] rb_110 kr_111 (own_u ([x1, x2] : List Int32)) T103.heap n0 (Nat.le_trans Z0 Z129) f113) hZ (ow hw 222 rfl) (ow hw 196 rfl) (by decide) (by decide)) rfl (g := (mkF m 45 #[r' a, r' b, i' 0, i' 2, .val .null, r' rb_110] [(.int 2), (.ref rb_110), (.ref a)])) rfl (by rw [hml]; rfl) (argsL := [(.ref rb_110), (.int (2 : Int32))]) (rest := [(.ref a)]) rfl (lenOf own_pd17 rfl) rfl (by show 2 * 0 + _ ≤ _; exact Nat.le_of_eq rfl) (hb hby own_d38_45) (by decide) (by decide)
    obtain ⟨Nq128, e128, rfl⟩ := q128
    have N128 := Fr.app N103 Nq128
    refine go _ _ (st128) ?_
    have K131 : Keep h0 T103.heap [] := (Keep.refl h0 []).trans Kp103 all0
    have F132 : Fld Z T103.heap a "java/lang/String" "coder" "B" (.int (0 : Int32)) := (Fc.keep K131 nin0)
    have F133 : Exa Z T103.heap a "java/lang/String" := (Ea.keep K131)
    obtain ⟨T130, h130, X130, e130, W130, st130⟩ := putF X128 hx hZ hown (host := "") (Or.inl (ow hw 58 rfl)) Via.refl e128 F132 F133 (Or.inr ⟨(ow hw 9 rfl), rfl, hnm⟩) (ow hw 6 rfl) (ty := .byte) (by decide) rfl rfl (g := (mkF m 48 #[r' a, r' b, i' 0, i' 2, .val .null, r' rb_110] [(.int 1), (.ref a)])) rfl rfl (hb hby own_d38_48)
    have F134 : Fld Z T103.heap a "java/lang/String" "value" "[B" .null := (Fv.keep K131 nin0)
    have N130 := Fr.snoc X130 N128 gz_a
    refine go _ _ (st130) ?_
    show G (T130.setTop (mkF m 51 #[r' a, r' b, i' 0, i' 2, .val .null, r' rb_110] []))
    refine go _ _ (fun _ k => XS.aloadN X130.here hx rfl (hb hby own_d38_51) rfl rfl (XS.aload X130.here hx rfl (hb hby own_d38_52) rfl rfl k)) ?_
    obtain ⟨T135, h135, X135, e135, W135, st135⟩ := putF X130 hx hZ hown (host := "") (Or.inl (ow hw 51 rfl)) Via.refl e130 (F134.other W130 (Or.inr (RoadKit.slot_ne (t := (.array .byte)) (t' := .byte) (Or.inr (ow hw 8 rfl)) (Or.inr (ow hw 9 rfl)) (by decide) (by decide) (by decide)))) (F133.wr W130) (Or.inr ⟨(ow hw 8 rfl), rfl, hnm⟩) (ow hw 6 rfl) (ty := (.array .byte)) (by decide) rfl rfl (g := (mkF m 54 #[r' a, r' b, i' 0, i' 2, .val .null, r' rb_110] [(.ref rb_110), (.ref a)])) rfl rfl (hb hby own_d38_54)
    have N135 := Fr.snoc X135 N130 gz_a
    refine go _ _ (st135) ?_
    show G (T135.setTop (mkF m 57 #[r' a, r' b, i' 0, i' 2, .val .null, r' rb_110] []))
    have K136 : Keep h0 T103.heap [a] := (Keep.refl h0 [a]).trans Kp103 all0
    have K137 : Keep h0 h130 [a] := K136.wr W130 (Or.inl (List.mem_of_getElem? (i := 0) rfl))
    have K138 : Keep h0 h135 [a] := K137.wr W135 (Or.inl (List.mem_of_getElem? (i := 0) rfl))
    have K139 : Keep T103.heap h130 [a] := (Keep.refl T103.heap [a]).wr W130 (Or.inl (List.mem_of_getElem? (i := 0) rfl))
    have K140 : Keep T103.heap h135 [a] := K139.wr W135 (Or.inl (List.mem_of_getElem? (i := 0) rfl))
    have F141 : Arv Z h135 rb_110 kr_111 .byte (4 : Int32) (own_u ([x1, x2] : List Int32)) (.int (0 : Int32)) := (f113.keep K140 (ninS (Ne.symm (Nat.ne_of_lt (Nat.lt_of_lt_of_le Fc.lt z112))) nin0))
    have Sx : own_S Z h135 a ([x1, x2] : List Int32) := ⟨_, _, ((F133.wr W130).wr W135), ((F134.other W130 (Or.inr (RoadKit.slot_ne (t := (.array .byte)) (t' := .byte) (Or.inr (ow hw 8 rfl)) (Or.inr (ow hw 9 rfl)) (by decide) (by decide) (by decide)))).same W135), hbx, (Nat.le_of_ble_eq_true rfl), (Or.inr ⟨((F132.same W130).other W135 (Or.inr (RoadKit.slot_ne (t := .byte) (t' := (.array .byte)) (Or.inr (ow hw 9 rfl)) (Or.inr (ow hw 8 rfl)) (by decide) (by decide) (by decide)))), F141⟩)⟩
    refine fin T135 _ _ _ none X135 (fun _ => rfl) (by decide) (by decide) (by rw [e135]; exact ⟨N135, K138, ⟨rfl, ((F133.wr W130).wr W135), Sx⟩⟩) _ (own_retV X135 hx hret (hb hby own_d38_57))
theorem own_d37_0 : decode jdk_42_method_3_code 0 = .ok (.aload_n 0, 1) := by decide +kernel
theorem own_d37_1 : decode jdk_42_method_3_code 1 = .ok (.aload_n 1, 1) := by decide +kernel
theorem own_d37_2 : decode jdk_42_method_3_code 2 = .ok (.iconst 0, 1) := by decide +kernel
theorem own_d37_3 : decode jdk_42_method_3_code 3 = .ok (.aload_n 1, 1) := by decide +kernel
theorem own_d37_4 : decode jdk_42_method_3_code 4 = .ok (.arraylength, 1) := by decide +kernel
theorem own_d37_5 : decode jdk_42_method_3_code 5 = .ok (.aconst_null, 1) := by decide +kernel
theorem own_pd18 : parseMethodDescriptor "([CIILjava/lang/Void;)V" = some ⟨[(.array .char), .int, .int, (.object "java/lang/Void")], none⟩ := by decide +kernel
theorem own_d37_6 : decode jdk_42_method_3_code 6 = .ok (.invokespecial 27, 3) := by decide +kernel
theorem own_d37_9 : decode jdk_42_method_3_code 9 = .ok (.return_, 1) := by decide +kernel
set_option maxHeartbeats 4000000 in
theorem own_ef_rm37 (m : MethodId) (x0 : Addr) (x1 : Addr) : entryFrame m #[(.ref x0), (.ref x1)] 2 = mkF m 0 #[.val (.ref x0), .val (.ref x1)] [] := by rfl
set_option maxRecDepth 65536 in
set_option maxHeartbeats 40000000 in
theorem rm37 (l : Launch) (Z : State) (a0 : Array Value) (hw : ∀ d ∈ tables_1, d.before a0 Z = true) (z0 : Int32) (fm0 : Value) (gl : own_Gl Z z0 fm0) (ws : List Jvm.Cond) (a : Addr) (b : Addr) (kc : ClassId) (x1 : Int32) (x2 : Int32) (h0 : Heap) (n0 : Nat) (Z0 : n0 ≤ h0.size) (Xo : Old Z n0 h0) (Ea : Exa Z h0 a "java/lang/String") (Fv : Fld Z h0 a "java/lang/String" "value" "[B" .null) (Fc : Fld Z h0 a "java/lang/String" "coder" "B" (.int (0 : Int32))) (Ab : Arv Z h0 b kc .char (2 : Int32) [(.int x1), (.int x2)] (.int (0 : Int32))) (hbx : own_bd ([x1, x2] : List Int32)) (gz_a : n0 ≤ a) :
    own_MetN l Z (⟨"java/lang/String", "<init>", "([C)V"⟩ : MethodName) jdk_42_method_3_code 2 none ws ({ frames := 5, cells := 2, slots := 6, locals := 74 } : Room) #[(.ref a), (.ref b)] h0 (fun v h L => Fr n0 L ∧ Keep h0 h [a] ∧ (((v = none) ∧ (Exa Z h a "java/lang/String") ∧ (own_S Z h a ([x1, x2] : List Int32))))) := by
  refine own_metN (plainFor_of_name own_pn0) ?_
  intro p e s m below meth c s₁ G hx hby hml hZ hown hnm hret X0 e0 go fin
  obtain ⟨O2, P5, O4, R4, O_ad, O_hi, O_lo⟩ := id gl
  have N0 := Fr.nil n0
  refine go _ _ (fun _ k => castTop (own_ef_rm37 m a b) k) ?_
  show G (s₁.setTop (mkF m 0 #[r' a, r' b] []))
  refine go _ _ (fun _ k => XS.aloadN X0.here hx rfl (hb hby own_d37_0) rfl rfl (XS.aloadN X0.here hx rfl (hb hby own_d37_1) rfl rfl (XS.iconst X0.here hx rfl (hb hby own_d37_2) (XS.aloadN X0.here hx rfl (hb hby own_d37_3) rfl rfl k)))) ?_
  show G (s₁.setTop (mkF m 4 #[r' a, r' b] [(.ref b), (.int 0), (.ref b), (.ref a)]))
  obtain ⟨cl101, Ar101, q101, S101, M101, H101, U101⟩ := id Ab
  refine go _ _ (fun _ k => X0.arraylength hx (by rw [e0]; exact Ar101.1) (State.isArrayOf_alike hZ.alike Ar101.2.1) (g := (mkF m 4 #[r' a, r' b] [(.ref b), (.int 0), (.ref b), (.ref a)])) rfl rfl (hb hby own_d37_4) _ k) ?_
  show G (s₁.setTop (mkF m 5 #[r' a, r' b] [(.int cl101.slots.size.toInt32), (.int 0), (.ref b), (.ref a)]))
  rw [len_of S101 M101]
  show G (s₁.setTop (mkF m 5 #[r' a, r' b] [(.int 2), (.int 0), (.ref b), (.ref a)]))
  refine go _ _ (fun _ k => XS.aconstNull X0.here hx rfl (hb hby own_d37_5) k) ?_
  obtain ⟨rv102, T102, L102, X102, q102, st102⟩ := own_sp X0 hx hZ (y := (⟨"java/lang/String", "<init>", "([CIILjava/lang/Void;)V"⟩ : MethodName)) rfl hown (ow hw 191 rfl) (ow hw 192 rfl) (ow hw 193 rfl) (by decide) (own_bkN (W := 0) (rm38 l Z a0 hw z0 fm0 gl [] a b kc x1 x2 h0 n0 Z0 Xo Ea Fv Fc Ab hbx gz_a) hZ (ow hw 193 rfl) (ow hw 5 rfl) (by decide) (by decide)) e0 (g := (mkF m 6 #[r' a, r' b] [.null, (.int 2), (.int 0), (.ref b), (.ref a)])) rfl (by rw [hml]; rfl) (a := a) (argsL := [(.ref b), (.int (0 : Int32)), (.int (2 : Int32)), .null]) (rest := []) rfl (lenOf own_pd18 rfl) rfl (by show 2 * 0 + _ ≤ _; exact Nat.le_of_eq rfl) (hb hby own_d37_6) (by decide) (by decide)
  obtain ⟨Nq102, Kp102, ⟨rfl, f103, f104⟩⟩ := q102
  have N102 := Fr.app N0 Nq102
  refine go _ _ (st102) ?_
  show G (T102.setTop (mkF m 9 #[r' a, r' b] []))
  have K105 : Keep h0 T102.heap [a] := (Keep.refl h0 [a]).trans Kp102 (allS (Or.inl (List.mem_of_getElem? (i := 0) rfl)) all0)
  refine fin T102 _ _ _ none X102 (fun _ => rfl) (by decide) (by decide) ⟨N102, K105, ⟨rfl, f103, f104⟩⟩ _ (own_retV X102 hx hret (hb hby own_d37_9))
theorem own_d3_0 : decode jdk_68_method_2_code 0 = .ok (.aload_n 0, 1) := by decide +kernel
theorem own_d3_1 : decode jdk_68_method_2_code 1 = .ok (.invokespecial 3, 3) := by decide +kernel
theorem own_d3_4 : decode jdk_68_method_2_code 4 = .ok (.getstatic 18, 3) := by decide +kernel
theorem own_d3_7 : decode jdk_68_method_2_code 7 = .ok (.ifCond .eq 18, 3) := by decide +kernel
theorem own_d3_10 : decode jdk_68_method_2_code 10 = .ok (.aload_n 0, 1) := by decide +kernel
theorem own_d3_11 : decode jdk_68_method_2_code 11 = .ok (.iload_n 1, 1) := by decide +kernel
theorem own_d3_12 : decode jdk_68_method_2_code 12 = .ok (.newarray .byte, 2) := by decide +kernel
theorem own_d3_14 : decode jdk_68_method_2_code 14 = .ok (.putfield 15, 3) := by decide +kernel
theorem own_d3_17 : decode jdk_68_method_2_code 17 = .ok (.aload_n 0, 1) := by decide +kernel
theorem own_d3_18 : decode jdk_68_method_2_code 18 = .ok (.iconst 0, 1) := by decide +kernel
theorem own_d3_19 : decode jdk_68_method_2_code 19 = .ok (.putfield 22, 3) := by decide +kernel
theorem own_d3_22 : decode jdk_68_method_2_code 22 = .ok (.goto 16, 3) := by decide +kernel
theorem own_d3_38 : decode jdk_68_method_2_code 38 = .ok (.return_, 1) := by decide +kernel
set_option maxHeartbeats 4000000 in
theorem own_ef_rm3 (m : MethodId) (x0 : Addr) (x1 : Int32) : entryFrame m #[(.ref x0), (.int x1)] 2 = mkF m 0 #[.val (.ref x0), .val (.int x1)] [] := by rfl
set_option maxRecDepth 65536 in
set_option maxHeartbeats 40000000 in
theorem rm3 (l : Launch) (Z : State) (a0 : Array Value) (hw : ∀ d ∈ tables_1, d.before a0 Z = true) (z0 : Int32) (fm0 : Value) (gl : own_Gl Z z0 fm0) (ws : List Jvm.Cond) (a : Addr) (h0 : Heap) (n0 : Nat) (Z0 : n0 ≤ h0.size) (Xo : Old Z n0 h0) (Ea : Exa Z h0 a "java/lang/StringBuilder") (Fv : Fld Z h0 a "java/lang/AbstractStringBuilder" "value" "[B" .null) (Fc : Fld Z h0 a "java/lang/AbstractStringBuilder" "coder" "B" (.int (0 : Int32))) (Fn : Fld Z h0 a "java/lang/AbstractStringBuilder" "count" "I" (.int (0 : Int32))) (Fm : Fld Z h0 a "java/lang/AbstractStringBuilder" "maybeLatin1" "Z" (.int (0 : Int32))) (gz_a : n0 ≤ a) :
    own_MetN l Z (⟨"java/lang/AbstractStringBuilder", "<init>", "(I)V"⟩ : MethodName) jdk_68_method_2_code 2 none ws ({ frames := 1, cells := 1, slots := 16, locals := 12 } : Room) #[(.ref a), (.int (16 : Int32))] h0 (fun v h L => Fr n0 L ∧ Keep h0 h [a] ∧ ((∃ (t : Addr), (v = none) ∧ (h0.size ≤ t) ∧ (own_B Z h a t ([] : List Int32))))) := by
  refine own_metN (plainFor_of_name own_pn1) ?_
  intro p e s m below meth c s₁ G hx hby hml hZ hown hnm hret X0 e0 go fin
  obtain ⟨O2, P5, O4, R4, O_ad, O_hi, O_lo⟩ := id gl
  have N0 := Fr.nil n0
  refine go _ _ (fun _ k => castTop (own_ef_rm3 m a (16 : Int32)) k) ?_
  show G (s₁.setTop (mkF m 0 #[r' a, i' 16] []))
  refine go _ _ (fun _ k => XS.aloadN X0.here hx rfl (hb hby own_d3_0) rfl rfl k) ?_
  obtain ⟨T101, X101, e101, st101⟩ := initO X0 hx hZ hown (ow hw 28 rfl) (ow hw 29 rfl) (ow hw 30 rfl) e0 (g := (mkF m 1 #[r' a, i' 16] [(.ref a)])) rfl (by rw [hml]; rfl) rfl (hb hby own_d3_1) (by decide) (W := 0) (by show 2 * 0 + _ ≤ _; exact Nat.le_of_eq rfl) (by decide)
  refine go _ _ (st101) ?_
  obtain ⟨T102, X102, e102, st102⟩ := getS2 X101 hx hZ (host := "") hown (Or.inl (ow hw 31 rfl)) Via.refl e101 (O2.ext Xo.2) (g := (mkF m 4 #[r' a, i' 16] [])) rfl (hb hby own_d3_4)
  refine go _ _ (st102) ?_
  show G (T102.setTop (mkF m 7 #[r' a, i' 16] [(.int z0)]))
  refine go _ _ (fun _ k => XS.ifNo X102.here hx rfl (hb hby own_d3_7) rfl ((if0 _ _).trans (feq P5).1) k) ?_
  show G (T102.setTop (mkF m 10 #[r' a, i' 16] []))
  refine go _ _ (fun _ k => XS.aloadN X102.here hx rfl (hb hby own_d3_10) rfl rfl (XS.iloadN X102.here hx rfl (hb hby own_d3_11) rfl k)) ?_
  obtain ⟨T103, h103, k103, X103, e103, E103, A103, st103⟩ := newP X102 hx hZ (ow hw 7 rfl) e102 (g := (mkF m 12 #[r' a, i' 16] [(.int 16), (.ref a)])) rfl (hb hby own_d3_12) rfl (by decide) (cap := 16) (by decide) (by decide) (by decide) (by decide)
  obtain ⟨b103, g103⟩ : ∃ z, z = h0.size := ⟨_, rfl⟩
  rw [← g103] at A103 st103
  have V103 : Arv Z h103 b103 k103 .byte (16 : Int32) [(.int (0 : Int32)), (.int (0 : Int32)), (.int (0 : Int32)), (.int (0 : Int32)), (.int (0 : Int32)), (.int (0 : Int32)), (.int (0 : Int32)), (.int (0 : Int32)), (.int (0 : Int32)), (.int (0 : Int32)), (.int (0 : Int32)), (.int (0 : Int32)), (.int (0 : Int32)), (.int (0 : Int32)), (.int (0 : Int32)), (.int (0 : Int32))] (.int (0 : Int32)) := (Arv.new A103 (by decide)).pad (pad_rep [] (.int (0 : Int32)) 16)
  refine go _ _ (st103) ?_
  have K105 : Keep h0 h103 [] := (Keep.refl h0 []).ext E103
  have F106 : Fld Z h103 a "java/lang/AbstractStringBuilder" "value" "[B" .null := (Fv.keep K105 nin0)
  have F107 : Exa Z h103 a "java/lang/StringBuilder" := (Ea.keep K105)
  obtain ⟨T104, h104, X104, e104, W104, st104⟩ := putF X103 hx hZ hown (host := "") (Or.inl (ow hw 32 rfl)) Via.refl e103 F106 F107 (Or.inl (ow hw 33 rfl)) (ow hw 17 rfl) (ty := (.array .byte)) (by decide) rfl rfl (g := (mkF m 14 #[r' a, i' 16] [(.ref b103), (.ref a)])) rfl rfl (hb hby own_d3_14)
  have F108 : Fld Z h103 a "java/lang/AbstractStringBuilder" "coder" "B" (.int (0 : Int32)) := (Fc.keep K105 nin0)
  have F109 : Fld Z h103 a "java/lang/AbstractStringBuilder" "count" "I" (.int (0 : Int32)) := (Fn.keep K105 nin0)
  have F110 : Fld Z h103 a "java/lang/AbstractStringBuilder" "maybeLatin1" "Z" (.int (0 : Int32)) := (Fm.keep K105 nin0)
  have N104 := Fr.snoc X104 N0 gz_a
  refine go _ _ (st104) ?_
  show G (T104.setTop (mkF m 17 #[r' a, i' 16] []))
  refine go _ _ (fun _ k => XS.aloadN X104.here hx rfl (hb hby own_d3_17) rfl rfl (XS.iconst X104.here hx rfl (hb hby own_d3_18) k)) ?_
  obtain ⟨T111, h111, X111, e111, W111, st111⟩ := putF X104 hx hZ hown (host := "") (Or.inl (ow hw 34 rfl)) Via.refl e104 (F108.other W104 (Or.inr (RoadKit.slot_ne (t := .byte) (t' := (.array .byte)) (Or.inl (ow hw 35 rfl)) (Or.inl (ow hw 33 rfl)) (by decide) (by decide) (by decide)))) (F107.wr W104) (Or.inl (ow hw 35 rfl)) (ow hw 17 rfl) (ty := .byte) (by decide) rfl rfl (g := (mkF m 19 #[r' a, i' 16] [(.int 0), (.ref a)])) rfl rfl (hb hby own_d3_19)
  have N111 := Fr.snoc X111 N104 gz_a
  refine go _ _ (st111) ?_
  show G (T111.setTop (mkF m 22 #[r' a, i' 16] []))
  refine go _ _ (fun _ k => XS.goto X111.here hx rfl (pc0 := 22) (pc' := 38) rfl (hb hby own_d3_22) (by decide) (by decide) k) ?_
  show G (T111.setTop (mkF m 38 #[r' a, i' 16] []))
  have K112 : Keep h0 h103 [a] := (Keep.refl h0 [a]).ext E103
  have K113 : Keep h0 h104 [a] := K112.wr W104 (Or.inl (List.mem_of_getElem? (i := 0) rfl))
  have K114 : Keep h0 h111 [a] := K113.wr W111 (Or.inl (List.mem_of_getElem? (i := 0) rfl))
  have K115 : Keep h103 h104 [a] := (Keep.refl h103 [a]).wr W104 (Or.inl (List.mem_of_getElem? (i := 0) rfl))
  have K116 : Keep h103 h111 [a] := K115.wr W111 (Or.inl (List.mem_of_getElem? (i := 0) rfl))
  have F117 : Arv Z h111 b103 k103 .byte (16 : Int32) (own_bs ([] : List Int32)) (.int (0 : Int32)) := ((Arv.new A103 (by decide)).keep K116 (ninS (Ne.symm (Nat.ne_of_lt (Nat.lt_of_lt_of_le Fv.lt (Nat.le_of_eq g103.symm)))) nin0))
  have Bx : own_B Z h111 a b103 ([] : List Int32) := ⟨((F107.wr W104).wr W111), ((F106.same W104).other W111 (Or.inr (RoadKit.slot_ne (t := (.array .byte)) (t' := .byte) (Or.inl (ow hw 33 rfl)) (Or.inl (ow hw 35 rfl)) (by decide) (by decide) (by decide)))), ((F109.other W104 (Or.inr (RoadKit.slot_ne (t := .int) (t' := (.array .byte)) (Or.inl (ow hw 60 rfl)) (Or.inl (ow hw 33 rfl)) (by decide) (by decide) (by decide)))).other W111 (Or.inr (RoadKit.slot_ne (t := .int) (t' := .byte) (Or.inl (ow hw 60 rfl)) (Or.inl (ow hw 35 rfl)) (by decide) (by decide) (by decide)))), ((F110.other W104 (Or.inr (RoadKit.slot_ne (t := .boolean) (t' := (.array .byte)) (Or.inl (ow hw 256 rfl)) (Or.inl (ow hw 33 rfl)) (by decide) (by decide) (by decide)))).other W111 (Or.inr (RoadKit.slot_ne (t := .boolean) (t' := .byte) (Or.inl (ow hw 256 rfl)) (Or.inl (ow hw 35 rfl)) (by decide) (by decide) (by decide)))), own_bd0, (Or.inl ⟨((F108.other W104 (Or.inr (RoadKit.slot_ne (t := .byte) (t' := (.array .byte)) (Or.inl (ow hw 35 rfl)) (Or.inl (ow hw 33 rfl)) (by decide) (by decide) (by decide)))).same W111), own_b80, _, F117⟩)⟩
  refine fin T111 _ _ _ none X111 (fun _ => rfl) (by decide) (by decide) (by rw [e111]; exact ⟨N111, K114, ⟨b103, rfl, (Nat.le_of_eq g103.symm), Bx⟩⟩) _ (own_retV X111 hx hret (hb hby own_d3_38))
theorem own_pn5 : plainName "java/lang/StringBuilder" = true := by decide +kernel
theorem own_d2_0 : decode jdk_67_method_1_code 0 = .ok (.aload_n 0, 1) := by decide +kernel
theorem own_d2_1 : decode jdk_67_method_1_code 1 = .ok (.bipush 16, 2) := by decide +kernel
theorem own_pd19 : parseMethodDescriptor "(I)V" = some ⟨[.int], none⟩ := by decide +kernel
theorem own_d2_3 : decode jdk_67_method_1_code 3 = .ok (.invokespecial 1, 3) := by decide +kernel
theorem own_d2_6 : decode jdk_67_method_1_code 6 = .ok (.return_, 1) := by decide +kernel
set_option maxHeartbeats 4000000 in
theorem own_ef_rm2 (m : MethodId) (x0 : Addr) : entryFrame m #[(.ref x0)] 1 = mkF m 0 #[.val (.ref x0)] [] := by rfl
set_option maxRecDepth 65536 in
set_option maxHeartbeats 40000000 in
theorem rm2 (l : Launch) (Z : State) (a0 : Array Value) (hw : ∀ d ∈ tables_1, d.before a0 Z = true) (z0 : Int32) (fm0 : Value) (gl : own_Gl Z z0 fm0) (ws : List Jvm.Cond) (a : Addr) (h0 : Heap) (n0 : Nat) (Z0 : n0 ≤ h0.size) (Xo : Old Z n0 h0) (Ea : Exa Z h0 a "java/lang/StringBuilder") (Fv : Fld Z h0 a "java/lang/AbstractStringBuilder" "value" "[B" .null) (Fc : Fld Z h0 a "java/lang/AbstractStringBuilder" "coder" "B" (.int (0 : Int32))) (Fn : Fld Z h0 a "java/lang/AbstractStringBuilder" "count" "I" (.int (0 : Int32))) (Fm : Fld Z h0 a "java/lang/AbstractStringBuilder" "maybeLatin1" "Z" (.int (0 : Int32))) (gz_a : n0 ≤ a) :
    own_MetN l Z (⟨"java/lang/StringBuilder", "<init>", "()V"⟩ : MethodName) jdk_67_method_1_code 1 none ws ({ frames := 2, cells := 1, slots := 16, locals := 25 } : Room) #[(.ref a)] h0 (fun v h L => Fr n0 L ∧ Keep h0 h [a] ∧ ((∃ (t : Addr), (v = none) ∧ (h0.size ≤ t) ∧ (own_B Z h a t ([] : List Int32))))) := by
  refine own_metN (plainFor_of_name own_pn5) ?_
  intro p e s m below meth c s₁ G hx hby hml hZ hown hnm hret X0 e0 go fin
  obtain ⟨O2, P5, O4, R4, O_ad, O_hi, O_lo⟩ := id gl
  have N0 := Fr.nil n0
  refine go _ _ (fun _ k => castTop (own_ef_rm2 m a) k) ?_
  show G (s₁.setTop (mkF m 0 #[r' a] []))
  refine go _ _ (fun _ k => XS.aloadN X0.here hx rfl (hb hby own_d2_0) rfl rfl (XS.bipush X0.here hx rfl (hb hby own_d2_1) k)) ?_
  obtain ⟨rv101, T101, L101, X101, q101, st101⟩ := own_sp X0 hx hZ (y := (⟨"java/lang/AbstractStringBuilder", "<init>", "(I)V"⟩ : MethodName)) rfl hown (ow hw 22 rfl) (ow hw 23 rfl) (ow hw 27 rfl) (by decide) (own_bkN (W := 0) (rm3 l Z a0 hw z0 fm0 gl [] a h0 n0 Z0 Xo Ea Fv Fc Fn Fm gz_a) hZ (ow hw 27 rfl) (ow hw 26 rfl) (by decide) (by decide)) e0 (g := (mkF m 3 #[r' a] [(.int 16), (.ref a)])) rfl (by rw [hml]; rfl) (a := a) (argsL := [(.int (16 : Int32))]) (rest := []) rfl (lenOf own_pd19 rfl) rfl (by show 2 * 0 + _ ≤ _; exact Nat.le_of_eq rfl) (hb hby own_d2_3) (by decide) (by decide)
  obtain ⟨Nq101, Kp101, ⟨t_102, rfl, z103, f104⟩⟩ := q101
  have N101 := Fr.app N0 Nq101
  refine go _ _ (st101) ?_
  show G (T101.setTop (mkF m 6 #[r' a] []))
  have K105 : Keep h0 T101.heap [a] := (Keep.refl h0 [a]).trans Kp101 (allS (Or.inl (List.mem_of_getElem? (i := 0) rfl)) all0)
  refine fin T101 _ _ _ none X101 (fun _ => rfl) (by decide) (by decide) ⟨N101, K105, ⟨t_102, rfl, z103, f104⟩⟩ _ (own_retV X101 hx hret (hb hby own_d2_6))
theorem own_d20_0 : decode jdk_68_method_64_code 0 = .ok (.aload_n 0, 1) := by decide +kernel
theorem own_d20_1 : decode jdk_68_method_64_code 1 = .ok (.getfield 15, 3) := by decide +kernel
theorem own_d20_4 : decode jdk_68_method_64_code 4 = .ok (.areturn, 1) := by decide +kernel
set_option maxHeartbeats 4000000 in
theorem own_ef_rm20 (m : MethodId) (x0 : Addr) : entryFrame m #[(.ref x0)] 1 = mkF m 0 #[.val (.ref x0)] [] := by rfl
set_option maxRecDepth 65536 in
set_option maxHeartbeats 40000000 in
theorem rm20 (l : Launch) (Z : State) (a0 : Array Value) (hw : ∀ d ∈ tables_1, d.before a0 Z = true) (z0 : Int32) (fm0 : Value) (gl : own_Gl Z z0 fm0) (ws : List Jvm.Cond) (a : Addr) (t : Addr) (h0 : Heap) (n0 : Nat) (Z0 : n0 ≤ h0.size) (Fv : Fld Z h0 a "java/lang/AbstractStringBuilder" "value" "[B" (.ref t)) :
    own_MetN l Z (⟨"java/lang/AbstractStringBuilder", "getValue", "()[B"⟩ : MethodName) jdk_68_method_64_code 1 (some (.array .byte)) ws ({ frames := 0, cells := 0, slots := 0, locals := 0 } : Room) #[(.ref a)] h0 (fun v h L => Fr n0 L ∧ h = h0 ∧ (((v = some (.ref t))))) := by
  refine own_metN (plainFor_of_name own_pn1) ?_
  intro p e s m below meth c s₁ G hx hby hml hZ hown hnm hret X0 e0 go fin
  obtain ⟨O2, P5, O4, R4, O_ad, O_hi, O_lo⟩ := id gl
  have N0 := Fr.nil n0
  refine go _ _ (fun _ k => castTop (own_ef_rm20 m a) k) ?_
  show G (s₁.setTop (mkF m 0 #[r' a] []))
  refine go _ _ (fun _ k => XS.aloadN X0.here hx rfl (hb hby own_d20_0) rfl rfl k) ?_
  obtain ⟨T101, X101, e101, st101⟩ := getF X0 hx hZ hown (host := "") (Or.inl (ow hw 32 rfl)) Via.refl e0 Fv (g := (mkF m 1 #[r' a] [(.ref a)])) rfl rfl (hb hby own_d20_1)
  refine go _ _ (st101) ?_
  show G (T101.setTop (mkF m 4 #[r' a] [(.ref t)]))
  refine fin T101 _ _ _ (some (.ref t)) X101 (fun q => nomatch q) (by decide) (by decide) (by rw [e101]; exact ⟨N0, rfl, rfl⟩) _ (own_retA X101 hx hret rfl rfl rfl (hb hby own_d20_4))
theorem own_d22_0 : decode jdk_68_method_6_code 0 = .ok (.aload_n 0, 1) := by decide +kernel
theorem own_d22_1 : decode jdk_68_method_6_code 1 = .ok (.getfield 79, 3) := by decide +kernel
theorem own_d22_4 : decode jdk_68_method_6_code 4 = .ok (.ireturn, 1) := by decide +kernel
set_option maxHeartbeats 4000000 in
theorem own_ef_rm22 (m : MethodId) (x0 : Addr) : entryFrame m #[(.ref x0)] 1 = mkF m 0 #[.val (.ref x0)] [] := by rfl
set_option maxRecDepth 65536 in
set_option maxHeartbeats 40000000 in
theorem rm22 (l : Launch) (Z : State) (a0 : Array Value) (hw : ∀ d ∈ tables_1, d.before a0 Z = true) (z0 : Int32) (fm0 : Value) (gl : own_Gl Z z0 fm0) (ws : List Jvm.Cond) (a : Addr) (n : Int32) (h0 : Heap) (n0 : Nat) (Z0 : n0 ≤ h0.size) (Fn : Fld Z h0 a "java/lang/AbstractStringBuilder" "count" "I" (.int n)) :
    own_MetN l Z (⟨"java/lang/AbstractStringBuilder", "length", "()I"⟩ : MethodName) jdk_68_method_6_code 1 (some .int) ws ({ frames := 0, cells := 0, slots := 0, locals := 0 } : Room) #[(.ref a)] h0 (fun v h L => Fr n0 L ∧ h = h0 ∧ (((v = some (.int n))))) := by
  refine own_metN (plainFor_of_name own_pn1) ?_
  intro p e s m below meth c s₁ G hx hby hml hZ hown hnm hret X0 e0 go fin
  obtain ⟨O2, P5, O4, R4, O_ad, O_hi, O_lo⟩ := id gl
  have N0 := Fr.nil n0
  refine go _ _ (fun _ k => castTop (own_ef_rm22 m a) k) ?_
  show G (s₁.setTop (mkF m 0 #[r' a] []))
  refine go _ _ (fun _ k => XS.aloadN X0.here hx rfl (hb hby own_d22_0) rfl rfl k) ?_
  obtain ⟨T101, X101, e101, st101⟩ := getF X0 hx hZ hown (host := "") (Or.inl (ow hw 59 rfl)) Via.refl e0 Fn (g := (mkF m 1 #[r' a] [(.ref a)])) rfl rfl (hb hby own_d22_1)
  refine go _ _ (st101) ?_
  show G (T101.setTop (mkF m 4 #[r' a] [(.int n)]))
  refine fin T101 _ _ _ (some (.int n)) X101 (fun q => nomatch q) (by decide) (by decide) (by rw [e101]; exact ⟨N0, rfl, rfl⟩) _ (own_retI X101 hx hret (hb hby own_d22_4))
theorem own_d21_0 : decode jdk_67_method_93_code 0 = .ok (.aload_n 0, 1) := by decide +kernel
theorem own_pd20 : parseMethodDescriptor "()I" = some ⟨[], some .int⟩ := by decide +kernel
theorem own_d21_1 : decode jdk_67_method_93_code 1 = .ok (.invokespecial 343, 3) := by decide +kernel
theorem own_d21_4 : decode jdk_67_method_93_code 4 = .ok (.ireturn, 1) := by decide +kernel
set_option maxHeartbeats 4000000 in
theorem own_ef_rm21 (m : MethodId) (x0 : Addr) : entryFrame m #[(.ref x0)] 1 = mkF m 0 #[.val (.ref x0)] [] := by rfl
set_option maxRecDepth 65536 in
set_option maxHeartbeats 40000000 in
theorem rm21 (l : Launch) (Z : State) (a0 : Array Value) (hw : ∀ d ∈ tables_1, d.before a0 Z = true) (z0 : Int32) (fm0 : Value) (gl : own_Gl Z z0 fm0) (ws : List Jvm.Cond) (a : Addr) (n : Int32) (h0 : Heap) (n0 : Nat) (Z0 : n0 ≤ h0.size) (Ea : Exa Z h0 a "java/lang/StringBuilder") (Fn : Fld Z h0 a "java/lang/AbstractStringBuilder" "count" "I" (.int n)) :
    own_MetN l Z (⟨"java/lang/StringBuilder", "length", "()I"⟩ : MethodName) jdk_67_method_93_code 1 (some .int) ws ({ frames := 1, cells := 0, slots := 0, locals := 12 } : Room) #[(.ref a)] h0 (fun v h L => Fr n0 L ∧ h = h0 ∧ (((v = some (.int n))))) := by
  refine own_metN (plainFor_of_name own_pn5) ?_
  intro p e s m below meth c s₁ G hx hby hml hZ hown hnm hret X0 e0 go fin
  obtain ⟨O2, P5, O4, R4, O_ad, O_hi, O_lo⟩ := id gl
  have N0 := Fr.nil n0
  refine go _ _ (fun _ k => castTop (own_ef_rm21 m a) k) ?_
  show G (s₁.setTop (mkF m 0 #[r' a] []))
  refine go _ _ (fun _ k => XS.aloadN X0.here hx rfl (hb hby own_d21_0) rfl rfl k) ?_
  obtain ⟨rv101, T101, L101, X101, q101, st101⟩ := own_su X0 hx hZ (y := (⟨"java/lang/AbstractStringBuilder", "length", "()I"⟩ : MethodName)) hown (ow hw 129 rfl) (own_same (z := (⟨"java/lang/AbstractStringBuilder", "ensureCapacityInternal", "(I)V"⟩ : MethodName)) (by decide) rfl (ow hw 64 rfl) (ow hw 125 rfl)) (ow hw 125 rfl) (ow hw 43 rfl) (by decide) (ow hw 130 rfl) (own_bkN (W := 0) (rm22 l Z a0 hw z0 fm0 gl [] a n h0 n0 Z0 Fn) hZ (ow hw 130 rfl) (ow hw 26 rfl) (by decide) (by decide)) e0 Ea (g := (mkF m 1 #[r' a] [(.ref a)])) rfl (by rw [hml]; rfl) (argsL := []) (rest := []) rfl (lenOf own_pd20 rfl) rfl (by show 2 * 0 + _ ≤ _; exact Nat.le_of_eq rfl) (hb hby own_d21_1) (by decide) (by decide)
  obtain ⟨Nq101, e101, rfl⟩ := q101
  have N101 := Fr.app N0 Nq101
  refine go _ _ (st101) ?_
  show G (T101.setTop (mkF m 4 #[r' a] [(.int n)]))
  refine fin T101 _ _ _ (some (.int n)) X101 (fun q => nomatch q) (by decide) (by decide) (by rw [e101]; exact ⟨N101, rfl, rfl⟩) _ (own_retI X101 hx hret (hb hby own_d21_4))
theorem own_d49_0 : decode jdk_52_method_86_code 0 = .ok (.iload_n 3, 1) := by decide +kernel
theorem own_d49_1 : decode jdk_52_method_86_code 1 = .ok (.iload 4, 2) := by decide +kernel
theorem own_d49_3 : decode jdk_52_method_86_code 3 = .ok (.aload_n 2, 1) := by decide +kernel
theorem own_pd21 : parseMethodDescriptor "(II[B)V" = some ⟨[.int, .int, (.array .byte)], none⟩ := by decide +kernel
theorem own_d49_4 : decode jdk_52_method_86_code 4 = .ok (.invokestatic 173, 3) := by decide +kernel
theorem own_d49_7 : decode jdk_52_method_86_code 7 = .ok (.iconst 0, 1) := by decide +kernel
theorem own_d49_8 : decode jdk_52_method_86_code 8 = .ok (.istore 5, 2) := by decide +kernel
theorem own_d49_10 : decode jdk_52_method_86_code 10 = .ok (.iload 5, 2) := by decide +kernel
theorem own_d49_12 : decode jdk_52_method_86_code 12 = .ok (.iload 4, 2) := by decide +kernel
theorem own_d49_14 : decode jdk_52_method_86_code 14 = .ok (.if_icmp .ge 27, 3) := by decide +kernel
theorem own_d49_41 : decode jdk_52_method_86_code 41 = .ok (.return_, 1) := by decide +kernel
theorem own_d49_17 : decode jdk_52_method_86_code 17 = .ok (.aload_n 2, 1) := by decide +kernel
theorem own_d49_18 : decode jdk_52_method_86_code 18 = .ok (.iload_n 3, 1) := by decide +kernel
theorem own_d49_19 : decode jdk_52_method_86_code 19 = .ok (.iinc 3 1, 3) := by decide +kernel
theorem own_d49_22 : decode jdk_52_method_86_code 22 = .ok (.aload_n 0, 1) := by decide +kernel
theorem own_d49_23 : decode jdk_52_method_86_code 23 = .ok (.iload_n 1, 1) := by decide +kernel
theorem own_d49_24 : decode jdk_52_method_86_code 24 = .ok (.iinc 1 1, 3) := by decide +kernel
theorem own_d49_27 : decode jdk_52_method_86_code 27 = .ok (.baload, 1) := by decide +kernel
theorem own_d49_28 : decode jdk_52_method_86_code 28 = .ok (.sipush 255, 3) := by decide +kernel
theorem own_d49_31 : decode jdk_52_method_86_code 31 = .ok (.iand, 1) := by decide +kernel
theorem own_d49_32 : decode jdk_52_method_86_code 32 = .ok (.invokestatic 111, 3) := by decide +kernel
theorem own_d49_35 : decode jdk_52_method_86_code 35 = .ok (.iinc 5 1, 3) := by decide +kernel
theorem own_d49_38 : decode jdk_52_method_86_code 38 = .ok (.goto (-28), 3) := by decide +kernel
set_option maxHeartbeats 4000000 in
theorem own_ef_rm49 (m : MethodId) (x0 : Addr) (x1 : Int32) (x2 : Addr) (x3 : Int32) (x4 : Int32) : entryFrame m #[(.ref x0), (.int x1), (.ref x2), (.int x3), (.int x4)] 6 = mkF m 0 #[.val (.ref x0), .val (.int x1), .val (.ref x2), .val (.int x3), .val (.int x4), .unset] [] := by rfl
set_option maxRecDepth 65536 in
set_option maxHeartbeats 40000000 in
theorem rm49 (l : Launch) (Z : State) (a0 : Array Value) (hw : ∀ d ∈ tables_1, d.before a0 Z = true) (z0 : Int32) (fm0 : Value) (gl : own_Gl Z z0 fm0) (ws : List Jvm.Cond) (q : Addr) (t : Addr) (i : Int32) (n : Int32) (kq : ClassId) (zq : Int32) (kb : ClassId) (cs : List Int32) (ds : List Int32) (h0 : Heap) (n0 : Nat) (Z0 : n0 ≤ h0.size) (Xo : Old Z n0 h0) (Aq : Arv Z h0 q kq .byte zq (own_bs ds) (.int (0 : Int32))) (At : Arv Z h0 t kb .byte (32 : Int32) (own_u cs) (.int (0 : Int32))) (hi : i = (own_n cs)) (hn : n = (own_n ds)) (hb8 : own_b8 ds) (hbd : own_bd ds) (hz : cs.length + ds.length ≤ 16) (hzq : ds.length ≤ zq.toNatClampNeg) (hqt : q ≠ t) (gz_t : n0 ≤ t) :
    own_MetN l Z (⟨"java/lang/StringUTF16", "inflate", "([BI[BII)V"⟩ : MethodName) jdk_52_method_86_code 6 none ws ({ frames := 3, cells := 0, slots := 0, locals := 43 } : Room) #[(.ref q), (.int (0 : Int32)), (.ref t), (.int i), (.int n)] h0 (fun v h L => Fr n0 L ∧ Keep h0 h [t] ∧ (((v = none) ∧ (Arv Z h t kb .byte (32 : Int32) (own_u (cs ++ ds)) (.int (0 : Int32)))))) := by
  refine own_metN (plainFor_of_name own_pn3) ?_
  intro p e s m below meth c s₁ G hx hby hml hZ hown hnm hret X0 e0 go fin
  obtain ⟨O2, P5, O4, R4, O_ad, O_hi, O_lo⟩ := id gl
  have N0 := Fr.nil n0
  refine go _ _ (fun _ k => castTop (own_ef_rm49 m q (0 : Int32) t i n) k) ?_
  show G (s₁.setTop (mkF m 0 #[r' q, i' 0, r' t, i' i, i' n, u'] []))
  subst hi
  show G (s₁.setTop (mkF m 0 #[r' q, i' 0, r' t, i' (own_n cs), i' n, u'] []))
  subst hn
  show G (s₁.setTop (mkF m 0 #[r' q, i' 0, r' t, i' (own_n cs), i' (own_n ds), u'] []))
  refine go _ _ (fun _ k => XS.iloadN X0.here hx rfl (hb hby own_d49_0) rfl (XS.iload X0.here hx rfl (hb hby own_d49_1) rfl (XS.aloadN X0.here hx rfl (hb hby own_d49_3) rfl rfl k))) ?_
  obtain ⟨rv101, T101, L101, X101, q101, st101⟩ := own_st X0 hx hZ (y := (⟨"java/lang/StringUTF16", "checkBoundsOffCount", "(II[B)V"⟩ : MethodName)) hown (ow hw 235 rfl) (ow hw 236 rfl) (ow hw 196 rfl) (ow hw 237 rfl) (by decide) (own_bkN (W := 0) (rm50 l Z a0 hw z0 fm0 gl [] (own_n cs) (own_n ds) t kb (own_u cs) h0 n0 Z0 Xo At (own_jz (n := cs.length) (by omega)) (own_jz (n := ds.length) (by omega)) (own_room (cs := cs) (ds := ds) (by omega))) hZ (ow hw 237 rfl) (ow hw 196 rfl) (by decide) (by decide)) e0 (g := (mkF m 4 #[r' q, i' 0, r' t, i' (own_n cs), i' (own_n ds), u'] [(.ref t), (.int (own_n ds)), (.int (own_n cs))])) rfl (by rw [hml]; rfl) (argsL := [(.int (own_n cs)), (.int (own_n ds)), (.ref t)]) (rest := []) rfl (lenOf own_pd21 rfl) rfl (by show 2 * 0 + _ ≤ _; exact Nat.le_of_eq rfl) (hb hby own_d49_4) (by decide) (by decide)
  obtain ⟨Nq101, e101, rfl⟩ := q101
  have N101 := Fr.app N0 Nq101
  refine go _ _ (st101) ?_
  show G (T101.setTop (mkF m 7 #[r' q, i' 0, r' t, i' (own_n cs), i' (own_n ds), u'] []))
  refine go _ _ (fun _ k => XS.iconst X101.here hx rfl (hb hby own_d49_7) (XS.istore X101.here hx rfl (hb hby own_d49_8) rfl (l' := #[r' q, i' 0, r' t, i' (own_n cs), i' (own_n ds), i' 0]) rfl k)) ?_
  show G (T101.setTop (mkF m 10 #[r' q, i' 0, r' t, i' (own_n cs), i' (own_n ds), i' 0] []))
  have J102 : ∀ (td dn : List Int32) (i3 : Int32) (T102 : State) (L102 : List Loc) (h102 : Heap), ds = dn ++ td → i3 = own_n (cs ++ dn) → Stand p l e ({ frames := 3, cells := 0, slots := 0, locals := 43 } : Room) s m #[(.ref q), (.int (0 : Int32)), (.ref t), (.int (own_n cs)), (.int (own_n ds))] below meth c T102 L102 0 0 → T102.heap = h102 → Fr n0 L102 → Keep h0 h102 [t] → (Arv Z h102 t kb .byte (32 : Int32) (own_u (cs ++ dn)) (.int (0 : Int32))) → G (T102.setTop (mkF m 10 #[r' q, i' (own_n dn), r' t, i' i3, i' (own_n ds), i' (own_n dn)] [])) := by
    intro td
    induction td with
    | nil =>
      intro dn i3 T102 L102 h102 hd hi3 X102 e102 N102 K102 V102
      rw [List.append_nil] at hd
      subst hd
      subst hi3
      show G (T102.setTop (mkF m 10 #[r' q, i' (own_n ds), r' t, i' (own_n (cs ++ ds)), i' (own_n ds), i' (own_n ds)] []))
      refine go _ _ (fun _ k => XS.iload X102.here hx rfl (hb hby own_d49_10) rfl (XS.iload X102.here hx rfl (hb hby own_d49_12) rfl k)) ?_
      show G (T102.setTop (mkF m 14 #[r' q, i' (own_n ds), r' t, i' (own_n (cs ++ ds)), i' (own_n ds), i' (own_n ds)] [(.int (own_n ds)), (.int (own_n ds))]))
      refine go _ _ (fun _ k => XS.icmpYes X102.here hx rfl (pc0 := 14) (pc' := 41) rfl (hb hby own_d49_14) rfl (flt own_irr).2.1 (by decide) (by decide) k) ?_
      show G (T102.setTop (mkF m 41 #[r' q, i' (own_n ds), r' t, i' (own_n (cs ++ ds)), i' (own_n ds), i' (own_n ds)] []))
      have K103 : Keep h0 h102 [t] := (Keep.refl h0 [t]).trans K102 (allS (Or.inl (List.mem_of_getElem? (i := 0) rfl)) all0)
      refine fin T102 _ _ _ none X102 (fun _ => rfl) (by decide) (by decide) (by rw [e102]; exact ⟨N102, K103, ⟨rfl, V102⟩⟩) _ (own_retV X102 hx hret (hb hby own_d49_41))
    | cons z td ih =>
      intro dn i3 T102 L102 h102 hd hi3 X102 e102 N102 K102 V102
      subst hi3
      have hlt : own_n dn < own_n ds := own_dlt hd (by omega)
      have hzm : ds[dn.length]? = some z := by rw [hd]; exact own_mid dn td z
      have hdl : dn.length < ds.length := own_gl hzm
      show G (T102.setTop (mkF m 10 #[r' q, i' (own_n dn), r' t, i' (own_n (cs ++ dn)), i' (own_n ds), i' (own_n dn)] []))
      refine go _ _ (fun _ k => XS.iload X102.here hx rfl (hb hby own_d49_10) rfl (XS.iload X102.here hx rfl (hb hby own_d49_12) rfl k)) ?_
      show G (T102.setTop (mkF m 14 #[r' q, i' (own_n dn), r' t, i' (own_n (cs ++ dn)), i' (own_n ds), i' (own_n dn)] [(.int (own_n ds)), (.int (own_n dn))]))
      refine go _ _ (fun _ k => XS.icmpNo X102.here hx rfl (hb hby own_d49_14) rfl (tlt hlt).2.1 k) ?_
      show G (T102.setTop (mkF m 17 #[r' q, i' (own_n dn), r' t, i' (own_n (cs ++ dn)), i' (own_n ds), i' (own_n dn)] []))
      refine go _ _ (fun _ k => XS.aloadN X102.here hx rfl (hb hby own_d49_17) rfl rfl (XS.iloadN X102.here hx rfl (hb hby own_d49_18) rfl (XS.iinc X102.here hx rfl (hb hby own_d49_19) rfl (l' := #[r' q, i' (own_n dn), r' t, i' ((own_n (cs ++ dn)) + (1 : Int32)), i' (own_n ds), i' (own_n dn)]) rfl (XS.aloadN X102.here hx rfl (hb hby own_d49_22) rfl rfl (XS.iloadN X102.here hx rfl (hb hby own_d49_23) rfl (XS.iinc X102.here hx rfl (hb hby own_d49_24) rfl (l' := #[r' q, i' ((own_n dn) + (1 : Int32)), r' t, i' ((own_n (cs ++ dn)) + (1 : Int32)), i' (own_n ds), i' (own_n dn)]) rfl k)))))) ?_
      show G (T102.setTop (mkF m 27 #[r' q, i' ((own_n dn) + (1 : Int32)), r' t, i' ((own_n (cs ++ dn)) + (1 : Int32)), i' (own_n ds), i' (own_n dn)] [(.int (own_n dn)), (.ref q), (.int (own_n (cs ++ dn))), (.ref t)]))
      have K105 : Keep h0 h102 [t] := (Keep.refl h0 [t]).trans K102 (allS (Or.inl (List.mem_of_getElem? (i := 0) rfl)) all0)
      have F106 : Arv Z h102 q kq .byte zq (own_bs ds) (.int (0 : Int32)) := (Aq.keep K105 (ninS hqt nin0))
      obtain ⟨cl104, Ar104, q104, S104, M104, H104, U104⟩ := id F106
      have ib104 := inb_of (j := (own_n dn)) S104 ⟨own_jz (n := dn.length) (by omega), own_jlt (n := dn.length) (by omega)⟩
      refine go _ _ (fun _ k => X102.baloadBytes hx (j := (own_n dn)) (v := .int (z.toInt8.toInt32)) (by rw [e102]; exact Ar104.1) (State.isArrayOf_alike hZ.alike Ar104.2.1) Ar104.2.2 ib104 (Has.at H104 ib104 (own_bs_gD hzm (by omega))) (g := (mkF m 27 #[r' q, i' ((own_n dn) + (1 : Int32)), r' t, i' ((own_n (cs ++ dn)) + (1 : Int32)), i' (own_n ds), i' (own_n dn)] [(.int (own_n dn)), (.ref q), (.int (own_n (cs ++ dn))), (.ref t)])) rfl rfl (hb hby own_d49_27) _ k) ?_
      show G (T102.setTop (mkF m 28 #[r' q, i' ((own_n dn) + (1 : Int32)), r' t, i' ((own_n (cs ++ dn)) + (1 : Int32)), i' (own_n ds), i' (own_n dn)] [(.int (z.toInt8.toInt32)), (.int (own_n (cs ++ dn))), (.ref t)]))
      refine go _ _ (fun _ k => XS.sipush X102.here hx rfl (hb hby own_d49_28) (XS.iand X102.here hx rfl (hb hby own_d49_31) rfl k)) ?_
      show G (T102.setTop (mkF m 32 #[r' q, i' ((own_n dn) + (1 : Int32)), r' t, i' ((own_n (cs ++ dn)) + (1 : Int32)), i' (own_n ds), i' (own_n dn)] [(.int ((z.toInt8.toInt32) &&& (255 : Int32))), (.int (own_n (cs ++ dn))), (.ref t)]))
      rw [(own_l8a (own_bdz hbd hzm).1 (own_b8z hb8 hzm))]
      show G (T102.setTop (mkF m 32 #[r' q, i' ((own_n dn) + (1 : Int32)), r' t, i' ((own_n (cs ++ dn)) + (1 : Int32)), i' (own_n ds), i' (own_n dn)] [(.int z), (.int (own_n (cs ++ dn))), (.ref t)]))
      have F108 : Old Z n0 h102 := (Xo.keep K105 (allS gz_t all0))
      have Z109 : h0.size ≤ h102.size := K102.1
      obtain ⟨rv107, T107, L107, X107, q107, st107⟩ := own_st X102 hx hZ (y := (⟨"java/lang/StringUTF16", "putChar", "([BII)V"⟩ : MethodName)) hown (ow hw 211 rfl) (ow hw 212 rfl) (ow hw 196 rfl) (ow hw 213 rfl) (by decide) (own_bkN (W := 0) (rm44 l Z a0 hw z0 fm0 gl [] t (own_n (cs ++ dn)) z kb (32 : Int32) (cs ++ dn) h102 n0 (Nat.le_trans Z0 Z109) F108 V102 rfl (show 2 * (cs ++ dn).length + 2 ≤ 32 by simp only [List.length_append, List.length_cons, List.length_nil] <;> omega) (by simp only [List.length_append, List.length_cons, List.length_nil] <;> omega) gz_t) hZ (ow hw 213 rfl) (ow hw 196 rfl) (by decide) (by decide)) e102 (g := (mkF m 32 #[r' q, i' ((own_n dn) + (1 : Int32)), r' t, i' ((own_n (cs ++ dn)) + (1 : Int32)), i' (own_n ds), i' (own_n dn)] [(.int z), (.int (own_n (cs ++ dn))), (.ref t)])) rfl (by rw [hml]; rfl) (argsL := [(.ref t), (.int (own_n (cs ++ dn))), (.int z)]) (rest := []) rfl (lenOf own_pd6 rfl) rfl (by show 2 * 0 + _ ≤ _; exact Nat.le_of_eq rfl) (hb hby own_d49_32) (by decide) (by decide)
      obtain ⟨Nq107, Kp107, ⟨rfl, f110⟩⟩ := q107
      have N107 := Fr.app N102 Nq107
      refine go _ _ (st107) ?_
      show G (T107.setTop (mkF m 35 #[r' q, i' ((own_n dn) + (1 : Int32)), r' t, i' ((own_n (cs ++ dn)) + (1 : Int32)), i' (own_n ds), i' (own_n dn)] []))
      refine go _ _ (fun _ k => XS.iinc X107.here hx rfl (hb hby own_d49_35) rfl (l' := #[r' q, i' ((own_n dn) + (1 : Int32)), r' t, i' ((own_n (cs ++ dn)) + (1 : Int32)), i' (own_n ds), i' ((own_n dn) + (1 : Int32))]) rfl k) ?_
      show G (T107.setTop (mkF m 38 #[r' q, i' ((own_n dn) + (1 : Int32)), r' t, i' ((own_n (cs ++ dn)) + (1 : Int32)), i' (own_n ds), i' ((own_n dn) + (1 : Int32))] []))
      refine go _ _ (fun _ k => XS.goto X107.here hx rfl (pc0 := 38) (pc' := 10) rfl (hb hby own_d49_38) (by decide) (by decide) k) ?_
      show G (T107.setTop (mkF m 10 #[r' q, i' ((own_n dn) + (1 : Int32)), r' t, i' ((own_n (cs ++ dn)) + (1 : Int32)), i' (own_n ds), i' ((own_n dn) + (1 : Int32))] []))
      rw [(own_n1 dn z)]
      show G (T107.setTop (mkF m 10 #[r' q, i' (own_n (dn ++ [z])), r' t, i' ((own_n (cs ++ dn)) + (1 : Int32)), i' (own_n ds), i' (own_n (dn ++ [z]))] []))
      rw [(own_n1' cs dn z)]
      show G (T107.setTop (mkF m 10 #[r' q, i' (own_n (dn ++ [z])), r' t, i' (own_n (cs ++ (dn ++ [z]))), i' (own_n ds), i' (own_n (dn ++ [z]))] []))
      have K111 : Keep h0 T107.heap [t] := K105.trans Kp107 (allS (Or.inl (List.mem_of_getElem? (i := 0) rfl)) all0)
      exact ih (dn ++ [z]) _ _ _ _ (by rw [hd]; simp) rfl X107 rfl N107 K111 (by rw [← List.append_assoc]; exact f110)
  exact J102 ds [] _ _ _ _ rfl (by rw [List.append_nil]) X101 e101 N101 (Keep.refl _ _) (by rw [List.append_nil]; exact At)
theorem own_d48_0 : decode jdk_43_method_50_code 0 = .ok (.aload_n 0, 1) := by decide +kernel
theorem own_d48_1 : decode jdk_43_method_50_code 1 = .ok (.iload_n 1, 1) := by decide +kernel
theorem own_d48_2 : decode jdk_43_method_50_code 2 = .ok (.aload_n 2, 1) := by decide +kernel
theorem own_d48_3 : decode jdk_43_method_50_code 3 = .ok (.iload_n 3, 1) := by decide +kernel
theorem own_d48_4 : decode jdk_43_method_50_code 4 = .ok (.iload 4, 2) := by decide +kernel
theorem own_pd22 : parseMethodDescriptor "([BI[BII)V" = some ⟨[(.array .byte), .int, (.array .byte), .int, .int], none⟩ := by decide +kernel
theorem own_d48_6 : decode jdk_43_method_50_code 6 = .ok (.invokestatic 240, 3) := by decide +kernel
theorem own_d48_9 : decode jdk_43_method_50_code 9 = .ok (.return_, 1) := by decide +kernel
set_option maxHeartbeats 4000000 in
theorem own_ef_rm48 (m : MethodId) (x0 : Addr) (x1 : Int32) (x2 : Addr) (x3 : Int32) (x4 : Int32) : entryFrame m #[(.ref x0), (.int x1), (.ref x2), (.int x3), (.int x4)] 5 = mkF m 0 #[.val (.ref x0), .val (.int x1), .val (.ref x2), .val (.int x3), .val (.int x4)] [] := by rfl
set_option maxRecDepth 65536 in
set_option maxHeartbeats 40000000 in
theorem rm48 (l : Launch) (Z : State) (a0 : Array Value) (hw : ∀ d ∈ tables_1, d.before a0 Z = true) (z0 : Int32) (fm0 : Value) (gl : own_Gl Z z0 fm0) (ws : List Jvm.Cond) (q : Addr) (t : Addr) (i : Int32) (n : Int32) (kq : ClassId) (zq : Int32) (kb : ClassId) (cs : List Int32) (ds : List Int32) (h0 : Heap) (n0 : Nat) (Z0 : n0 ≤ h0.size) (Xo : Old Z n0 h0) (Aq : Arv Z h0 q kq .byte zq (own_bs ds) (.int (0 : Int32))) (At : Arv Z h0 t kb .byte (32 : Int32) (own_u cs) (.int (0 : Int32))) (hi : i = (own_n cs)) (hn : n = (own_n ds)) (hb8 : own_b8 ds) (hbd : own_bd ds) (hz : cs.length + ds.length ≤ 16) (hzq : ds.length ≤ zq.toNatClampNeg) (hqt : q ≠ t) (gz_t : n0 ≤ t) :
    own_MetN l Z (⟨"java/lang/StringLatin1", "inflate", "([BI[BII)V"⟩ : MethodName) jdk_43_method_50_code 5 none ws ({ frames := 4, cells := 0, slots := 0, locals := 60 } : Room) #[(.ref q), (.int (0 : Int32)), (.ref t), (.int i), (.int n)] h0 (fun v h L => Fr n0 L ∧ Keep h0 h [t] ∧ (((v = none) ∧ (Arv Z h t kb .byte (32 : Int32) (own_u (cs ++ ds)) (.int (0 : Int32)))))) := by
  refine own_metN (plainFor_of_name own_pn4) ?_
  intro p e s m below meth c s₁ G hx hby hml hZ hown hnm hret X0 e0 go fin
  obtain ⟨O2, P5, O4, R4, O_ad, O_hi, O_lo⟩ := id gl
  have N0 := Fr.nil n0
  refine go _ _ (fun _ k => castTop (own_ef_rm48 m q (0 : Int32) t i n) k) ?_
  show G (s₁.setTop (mkF m 0 #[r' q, i' 0, r' t, i' i, i' n] []))
  refine go _ _ (fun _ k => XS.aloadN X0.here hx rfl (hb hby own_d48_0) rfl rfl (XS.iloadN X0.here hx rfl (hb hby own_d48_1) rfl (XS.aloadN X0.here hx rfl (hb hby own_d48_2) rfl rfl (XS.iloadN X0.here hx rfl (hb hby own_d48_3) rfl (XS.iload X0.here hx rfl (hb hby own_d48_4) rfl k))))) ?_
  obtain ⟨rv101, T101, L101, X101, q101, st101⟩ := own_st X0 hx hZ (y := (⟨"java/lang/StringUTF16", "inflate", "([BI[BII)V"⟩ : MethodName)) hown (ow hw 232 rfl) (ow hw 233 rfl) (ow hw 196 rfl) (ow hw 234 rfl) (by decide) (own_bkN (W := 0) (rm49 l Z a0 hw z0 fm0 gl [] q t i n kq zq kb cs ds h0 n0 Z0 Xo Aq At hi hn hb8 hbd hz hzq hqt gz_t) hZ (ow hw 234 rfl) (ow hw 196 rfl) (by decide) (by decide)) e0 (g := (mkF m 6 #[r' q, i' 0, r' t, i' i, i' n] [(.int n), (.int i), (.ref t), (.int 0), (.ref q)])) rfl (by rw [hml]; rfl) (argsL := [(.ref q), (.int (0 : Int32)), (.ref t), (.int i), (.int n)]) (rest := []) rfl (lenOf own_pd22 rfl) rfl (by show 2 * 0 + _ ≤ _; exact Nat.le_of_eq rfl) (hb hby own_d48_6) (by decide) (by decide)
  obtain ⟨Nq101, Kp101, ⟨rfl, f102⟩⟩ := q101
  have N101 := Fr.app N0 Nq101
  refine go _ _ (st101) ?_
  show G (T101.setTop (mkF m 9 #[r' q, i' 0, r' t, i' i, i' n] []))
  have K103 : Keep h0 T101.heap [t] := (Keep.refl h0 [t]).trans Kp101 (allS (Or.inl (List.mem_of_getElem? (i := 0) rfl)) all0)
  refine fin T101 _ _ _ none X101 (fun _ => rfl) (by decide) (by decide) ⟨N101, K103, ⟨rfl, f102⟩⟩ _ (own_retV X101 hx hret (hb hby own_d48_9))
theorem own_d47_0 : decode jdk_68_method_11_code 0 = .ok (.aload_n 0, 1) := by decide +kernel
theorem own_d47_1 : decode jdk_68_method_11_code 1 = .ok (.invokevirtual 83, 3) := by decide +kernel
theorem own_d47_4 : decode jdk_68_method_11_code 4 = .ok (.ifCond .ne 4, 3) := by decide +kernel
theorem own_d47_8 : decode jdk_68_method_11_code 8 = .ok (.aload_n 0, 1) := by decide +kernel
theorem own_d47_9 : decode jdk_68_method_11_code 9 = .ok (.getfield 15, 3) := by decide +kernel
theorem own_d47_12 : decode jdk_68_method_11_code 12 = .ok (.arraylength, 1) := by decide +kernel
theorem own_d47_13 : decode jdk_68_method_11_code 13 = .ok (.invokestatic 26, 3) := by decide +kernel
theorem own_d47_16 : decode jdk_68_method_11_code 16 = .ok (.astore_n 1, 1) := by decide +kernel
theorem own_d47_17 : decode jdk_68_method_11_code 17 = .ok (.aload_n 0, 1) := by decide +kernel
theorem own_d47_18 : decode jdk_68_method_11_code 18 = .ok (.getfield 15, 3) := by decide +kernel
theorem own_d47_21 : decode jdk_68_method_11_code 21 = .ok (.iconst 0, 1) := by decide +kernel
theorem own_d47_22 : decode jdk_68_method_11_code 22 = .ok (.aload_n 1, 1) := by decide +kernel
theorem own_d47_23 : decode jdk_68_method_11_code 23 = .ok (.iconst 0, 1) := by decide +kernel
theorem own_d47_24 : decode jdk_68_method_11_code 24 = .ok (.aload_n 0, 1) := by decide +kernel
theorem own_d47_25 : decode jdk_68_method_11_code 25 = .ok (.getfield 79, 3) := by decide +kernel
theorem own_d47_28 : decode jdk_68_method_11_code 28 = .ok (.invokestatic 125, 3) := by decide +kernel
theorem own_d47_31 : decode jdk_68_method_11_code 31 = .ok (.aload_n 0, 1) := by decide +kernel
theorem own_d47_32 : decode jdk_68_method_11_code 32 = .ok (.aload_n 1, 1) := by decide +kernel
theorem own_d47_33 : decode jdk_68_method_11_code 33 = .ok (.putfield 15, 3) := by decide +kernel
theorem own_d47_36 : decode jdk_68_method_11_code 36 = .ok (.aload_n 0, 1) := by decide +kernel
theorem own_d47_37 : decode jdk_68_method_11_code 37 = .ok (.iconst 1, 1) := by decide +kernel
theorem own_d47_38 : decode jdk_68_method_11_code 38 = .ok (.putfield 22, 3) := by decide +kernel
theorem own_d47_41 : decode jdk_68_method_11_code 41 = .ok (.return_, 1) := by decide +kernel
set_option maxHeartbeats 4000000 in
theorem own_ef_rmIfL (m : MethodId) (x0 : Addr) : entryFrame m #[(.ref x0)] 2 = mkF m 0 #[.val (.ref x0), .unset] [] := by rfl
set_option maxRecDepth 65536 in
set_option maxHeartbeats 40000000 in
theorem rmIfL (l : Launch) (Z : State) (a0 : Array Value) (hw : ∀ d ∈ tables_1, d.before a0 Z = true) (z0 : Int32) (fm0 : Value) (gl : own_Gl Z z0 fm0) (ws : List Jvm.Cond) (a : Addr) (t : Addr) (kb : ClassId) (cs : List Int32) (h0 : Heap) (n0 : Nat) (Z0 : n0 ≤ h0.size) (Xo : Old Z n0 h0) (Ea : Exa Z h0 a "java/lang/StringBuilder") (Fv : Fld Z h0 a "java/lang/AbstractStringBuilder" "value" "[B" (.ref t)) (Fc : Fld Z h0 a "java/lang/AbstractStringBuilder" "coder" "B" (.int (0 : Int32))) (Fn : Fld Z h0 a "java/lang/AbstractStringBuilder" "count" "I" (.int (own_n cs))) (Fm : Fld Z h0 a "java/lang/AbstractStringBuilder" "maybeLatin1" "Z" (.int (0 : Int32))) (At : Arv Z h0 t kb .byte (16 : Int32) (own_bs cs) (.int (0 : Int32))) (hb8c : own_b8 cs) (hbdc : own_bd cs) (hlc : cs.length ≤ 16) (gz_a : n0 ≤ a) :
    own_MetN l Z (⟨"java/lang/AbstractStringBuilder", "inflate", "()V"⟩ : MethodName) jdk_68_method_11_code 2 none ws ({ frames := 5, cells := 1, slots := 32, locals := 76 } : Room) #[(.ref a)] h0 (fun v h L => Fr n0 L ∧ Keep h0 h [a] ∧ ((∃ (t2 : Addr) (kb2 : ClassId), (v = none) ∧ (h0.size ≤ t2) ∧ (Exa Z h a "java/lang/StringBuilder") ∧ (Fld Z h a "java/lang/AbstractStringBuilder" "value" "[B" (.ref t2)) ∧ (Fld Z h a "java/lang/AbstractStringBuilder" "coder" "B" (.int (1 : Int32))) ∧ (Fld Z h a "java/lang/AbstractStringBuilder" "count" "I" (.int (own_n cs))) ∧ (Fld Z h a "java/lang/AbstractStringBuilder" "maybeLatin1" "Z" (.int (0 : Int32))) ∧ (Arv Z h t2 kb2 .byte (32 : Int32) (own_u cs) (.int (0 : Int32)))))) := by
  refine own_metN (plainFor_of_name own_pn1) ?_
  intro p e s m below meth c s₁ G hx hby hml hZ hown hnm hret X0 e0 go fin
  obtain ⟨O2, P5, O4, R4, O_ad, O_hi, O_lo⟩ := id gl
  have N0 := Fr.nil n0
  refine go _ _ (fun _ k => castTop (own_ef_rmIfL m a) k) ?_
  show G (s₁.setTop (mkF m 0 #[r' a, u'] []))
  refine go _ _ (fun _ k => XS.aloadN X0.here hx rfl (hb hby own_d47_0) rfl rfl k) ?_
  obtain ⟨rv101, T101, L101, X101, q101, st101⟩ := own_vi X0 hx hZ (y := (⟨"java/lang/AbstractStringBuilder", "isLatin1", "()Z"⟩ : MethodName)) (z := (⟨"java/lang/AbstractStringBuilder", "isLatin1", "()Z"⟩ : MethodName)) hown (ow hw 95 rfl) (ow hw 96 rfl) (ow hw 98 rfl) (ow hw 97 rfl) (Or.inl rfl) (by decide) (own_bkN (W := 0) (rmIb0 l Z a0 hw z0 fm0 gl [] a h0 n0 Z0 Xo Fc) hZ (ow hw 99 rfl) (ow hw 26 rfl) (by decide) (by decide)) e0 Ea (g := (mkF m 1 #[r' a, u'] [(.ref a)])) rfl (by rw [hml]; rfl) (argsL := []) (rest := []) rfl (lenOf own_pd8 rfl) rfl (by show 2 * 0 + _ ≤ _; exact Nat.le_of_eq rfl) (hb hby own_d47_1) (by decide) (by decide)
  obtain ⟨Nq101, e101, rfl⟩ := q101
  have N101 := Fr.app N0 Nq101
  refine go _ _ (st101) ?_
  show G (T101.setTop (mkF m 4 #[r' a, u'] [(.int 1)]))
  refine go _ _ (fun _ k => XS.ifYes X101.here hx rfl (pc0 := 4) (pc' := 8) rfl (hb hby own_d47_4) rfl (by decide) (by decide) (by decide) k) ?_
  show G (T101.setTop (mkF m 8 #[r' a, u'] []))
  refine go _ _ (fun _ k => XS.aloadN X101.here hx rfl (hb hby own_d47_8) rfl rfl k) ?_
  obtain ⟨T102, X102, e102, st102⟩ := getF X101 hx hZ hown (host := "") (Or.inl (ow hw 32 rfl)) Via.refl e101 Fv (g := (mkF m 9 #[r' a, u'] [(.ref a)])) rfl rfl (hb hby own_d47_9)
  refine go _ _ (st102) ?_
  show G (T102.setTop (mkF m 12 #[r' a, u'] [(.ref t)]))
  obtain ⟨cl103, Ar103, q103, S103, M103, H103, U103⟩ := id At
  refine go _ _ (fun _ k => X102.arraylength hx (by rw [e102]; exact Ar103.1) (State.isArrayOf_alike hZ.alike Ar103.2.1) (g := (mkF m 12 #[r' a, u'] [(.ref t)])) rfl rfl (hb hby own_d47_12) _ k) ?_
  show G (T102.setTop (mkF m 13 #[r' a, u'] [(.int cl103.slots.size.toInt32)]))
  rw [len_of S103 M103]
  show G (T102.setTop (mkF m 13 #[r' a, u'] [(.int 16)]))
  obtain ⟨rv104, T104, L104, X104, q104, st104⟩ := own_st X102 hx hZ (y := (⟨"java/lang/StringUTF16", "newBytesFor", "(I)[B"⟩ : MethodName)) hown (ow hw 228 rfl) (ow hw 205 rfl) (ow hw 196 rfl) (ow hw 206 rfl) (by decide) (own_bkN (W := 0) (rmNF16 l Z a0 hw z0 fm0 gl [] h0 n0 Z0) hZ (ow hw 206 rfl) (ow hw 196 rfl) (by decide) (by decide)) e102 (g := (mkF m 13 #[r' a, u'] [(.int 16)])) rfl (by rw [hml]; rfl) (argsL := [(.int (16 : Int32))]) (rest := []) rfl (lenOf own_pd14 rfl) rfl (by show 2 * 0 + _ ≤ _; exact Nat.le_of_eq rfl) (hb hby own_d47_13) (by decide) (by decide)
  obtain ⟨Nq104, Kp104, ⟨b_105, kb_106, rfl, z107, f108⟩⟩ := q104
  have N104 := Fr.app N101 Nq104
  refine go _ _ (st104) ?_
  show G (T104.setTop (mkF m 16 #[r' a, u'] [(.ref b_105)]))
  refine go _ _ (fun _ k => XS.astoreN X104.here hx rfl (hb hby own_d47_16) rfl rfl (l' := #[r' a, r' b_105]) rfl (XS.aloadN X104.here hx rfl (hb hby own_d47_17) rfl rfl k)) ?_
  have K110 : Keep h0 T104.heap [] := (Keep.refl h0 []).trans Kp104 all0
  have F111 : Fld Z T104.heap a "java/lang/AbstractStringBuilder" "value" "[B" (.ref t) := (Fv.keep K110 nin0)
  obtain ⟨T109, X109, e109, st109⟩ := getF X104 hx hZ hown (host := "") (Or.inl (ow hw 32 rfl)) Via.refl rfl F111 (g := (mkF m 18 #[r' a, r' b_105] [(.ref a)])) rfl rfl (hb hby own_d47_18)
  refine go _ _ (st109) ?_
  show G (T109.setTop (mkF m 21 #[r' a, r' b_105] [(.ref t)]))
  refine go _ _ (fun _ k => XS.iconst X109.here hx rfl (hb hby own_d47_21) (XS.aloadN X109.here hx rfl (hb hby own_d47_22) rfl rfl (XS.iconst X109.here hx rfl (hb hby own_d47_23) (XS.aloadN X109.here hx rfl (hb hby own_d47_24) rfl rfl k)))) ?_
  have F113 : Fld Z T104.heap a "java/lang/AbstractStringBuilder" "count" "I" (.int (own_n cs)) := (Fn.keep K110 nin0)
  obtain ⟨T112, X112, e112, st112⟩ := getF X109 hx hZ hown (host := "") (Or.inl (ow hw 59 rfl)) Via.refl e109 F113 (g := (mkF m 25 #[r' a, r' b_105] [(.ref a), (.int 0), (.ref b_105), (.int 0), (.ref t)])) rfl rfl (hb hby own_d47_25)
  refine go _ _ (st112) ?_
  have F115 : Old Z n0 T104.heap := (Xo.keep K110 all0)
  have F116 : Arv Z T104.heap t kb .byte (16 : Int32) (own_bs cs) (.int (0 : Int32)) := (At.keep K110 nin0)
  have Z117 : h0.size ≤ T104.heap.size := Kp104.1
  obtain ⟨rv114, T114, L114, X114, q114, st114⟩ := own_st X112 hx hZ (y := (⟨"java/lang/StringLatin1", "inflate", "([BI[BII)V"⟩ : MethodName)) hown (ow hw 229 rfl) (ow hw 230 rfl) (ow hw 102 rfl) (ow hw 231 rfl) (by decide) (own_bkN (W := 0) (rm48 l Z a0 hw z0 fm0 gl [] t b_105 (0 : Int32) (own_n cs) kb (16 : Int32) kb_106 ([] : List Int32) cs T104.heap n0 (Nat.le_trans Z0 Z117) F115 F116 f108 rfl rfl hb8c hbdc (by simp only [List.length_append, List.length_cons, List.length_nil] <;> omega) (show cs.length ≤ 16 by omega) (Nat.ne_of_lt (Nat.lt_of_lt_of_le At.lt z107)) (Nat.le_trans Z0 z107)) hZ (ow hw 231 rfl) (ow hw 102 rfl) (by decide) (by decide)) e112 (g := (mkF m 28 #[r' a, r' b_105] [(.int (own_n cs)), (.int 0), (.ref b_105), (.int 0), (.ref t)])) rfl (by rw [hml]; rfl) (argsL := [(.ref t), (.int (0 : Int32)), (.ref b_105), (.int (0 : Int32)), (.int (own_n cs))]) (rest := []) rfl (lenOf own_pd22 rfl) rfl (by show 2 * 0 + _ ≤ _; exact Nat.le_of_eq rfl) (hb hby own_d47_28) (by decide) (by decide)
  obtain ⟨Nq114, Kp114, ⟨rfl, f118⟩⟩ := q114
  have N114 := Fr.app N104 Nq114
  refine go _ _ (st114) ?_
  show G (T114.setTop (mkF m 31 #[r' a, r' b_105] []))
  refine go _ _ (fun _ k => XS.aloadN X114.here hx rfl (hb hby own_d47_31) rfl rfl (XS.aloadN X114.here hx rfl (hb hby own_d47_32) rfl rfl k)) ?_
  have K120 : Keep T104.heap T114.heap [b_105] := (Keep.refl T104.heap [b_105]).trans Kp114 (allS (Or.inl (List.mem_of_getElem? (i := 0) rfl)) all0)
  have F121 : Fld Z T114.heap a "java/lang/AbstractStringBuilder" "value" "[B" (.ref t) := (F111.keep K120 (ninS (Nat.ne_of_lt (Nat.lt_of_lt_of_le Ea.lt z107)) nin0))
  have K122 : Keep h0 T114.heap [] := K110.trans Kp114 (allS (Or.inr z107) all0)
  have F123 : Exa Z T114.heap a "java/lang/StringBuilder" := (Ea.keep K122)
  obtain ⟨T119, h119, X119, e119, W119, st119⟩ := putF X114 hx hZ hown (host := "") (Or.inl (ow hw 32 rfl)) Via.refl rfl F121 F123 (Or.inl (ow hw 33 rfl)) (ow hw 17 rfl) (ty := (.array .byte)) (by decide) rfl rfl (g := (mkF m 33 #[r' a, r' b_105] [(.ref b_105), (.ref a)])) rfl rfl (hb hby own_d47_33)
  have F124 : Fld Z T114.heap a "java/lang/AbstractStringBuilder" "coder" "B" (.int (0 : Int32)) := (Fc.keep K122 nin0)
  have F125 : Fld Z T114.heap a "java/lang/AbstractStringBuilder" "count" "I" (.int (own_n cs)) := (F113.keep K120 (ninS (Nat.ne_of_lt (Nat.lt_of_lt_of_le Fm.lt z107)) nin0))
  have F126 : Fld Z T114.heap a "java/lang/AbstractStringBuilder" "maybeLatin1" "Z" (.int (0 : Int32)) := (Fm.keep K122 nin0)
  have N119 := Fr.snoc X119 N114 gz_a
  refine go _ _ (st119) ?_
  show G (T119.setTop (mkF m 36 #[r' a, r' b_105] []))
  refine go _ _ (fun _ k => XS.aloadN X119.here hx rfl (hb hby own_d47_36) rfl rfl (XS.iconst X119.here hx rfl (hb hby own_d47_37) k)) ?_
  obtain ⟨T127, h127, X127, e127, W127, st127⟩ := putF X119 hx hZ hown (host := "") (Or.inl (ow hw 34 rfl)) Via.refl e119 (F124.other W119 (Or.inr (RoadKit.slot_ne (t := .byte) (t' := (.array .byte)) (Or.inl (ow hw 35 rfl)) (Or.inl (ow hw 33 rfl)) (by decide) (by decide) (by decide)))) (F123.wr W119) (Or.inl (ow hw 35 rfl)) (ow hw 17 rfl) (ty := .byte) (by decide) rfl rfl (g := (mkF m 38 #[r' a, r' b_105] [(.int 1), (.ref a)])) rfl rfl (hb hby own_d47_38)
  have N127 := Fr.snoc X127 N119 gz_a
  refine go _ _ (st127) ?_
  show G (T127.setTop (mkF m 41 #[r' a, r' b_105] []))
  have K128 : Keep h0 T104.heap [a] := (Keep.refl h0 [a]).trans Kp104 all0
  have K129 : Keep h0 T114.heap [a] := K128.trans Kp114 (allS (Or.inr z107) all0)
  have K130 : Keep h0 h119 [a] := K129.wr W119 (Or.inl (List.mem_of_getElem? (i := 0) rfl))
  have K131 : Keep h0 h127 [a] := K130.wr W127 (Or.inl (List.mem_of_getElem? (i := 0) rfl))
  have K132 : Keep T114.heap h119 [a] := (Keep.refl T114.heap [a]).wr W119 (Or.inl (List.mem_of_getElem? (i := 0) rfl))
  have K133 : Keep T114.heap h127 [a] := K132.wr W127 (Or.inl (List.mem_of_getElem? (i := 0) rfl))
  have F134 : Arv Z h127 b_105 kb_106 .byte (32 : Int32) (own_u (([] : List Int32) ++ cs)) (.int (0 : Int32)) := (f118.keep K133 (ninS (Ne.symm (Nat.ne_of_lt (Nat.lt_of_lt_of_le Fv.lt z107))) nin0))
  refine fin T127 _ _ _ none X127 (fun _ => rfl) (by decide) (by decide) (by rw [e127]; exact ⟨N127, K131, ⟨b_105, kb_106, rfl, z107, ((F123.wr W119).wr W127), ((F121.same W119).other W127 (Or.inr (RoadKit.slot_ne (t := (.array .byte)) (t' := .byte) (Or.inl (ow hw 33 rfl)) (Or.inl (ow hw 35 rfl)) (by decide) (by decide) (by decide)))), ((F124.other W119 (Or.inr (RoadKit.slot_ne (t := .byte) (t' := (.array .byte)) (Or.inl (ow hw 35 rfl)) (Or.inl (ow hw 33 rfl)) (by decide) (by decide) (by decide)))).same W127), ((F125.other W119 (Or.inr (RoadKit.slot_ne (t := .int) (t' := (.array .byte)) (Or.inl (ow hw 60 rfl)) (Or.inl (ow hw 33 rfl)) (by decide) (by decide) (by decide)))).other W127 (Or.inr (RoadKit.slot_ne (t := .int) (t' := .byte) (Or.inl (ow hw 60 rfl)) (Or.inl (ow hw 35 rfl)) (by decide) (by decide) (by decide)))), ((F126.other W119 (Or.inr (RoadKit.slot_ne (t := .boolean) (t' := (.array .byte)) (Or.inl (ow hw 256 rfl)) (Or.inl (ow hw 33 rfl)) (by decide) (by decide) (by decide)))).other W127 (Or.inr (RoadKit.slot_ne (t := .boolean) (t' := .byte) (Or.inl (ow hw 256 rfl)) (Or.inl (ow hw 35 rfl)) (by decide) (by decide) (by decide)))), F134⟩⟩) _ (own_retV X127 hx hret (hb hby own_d47_41))
theorem own_d47_7 : decode jdk_68_method_11_code 7 = .ok (.return_, 1) := by decide +kernel
set_option maxHeartbeats 4000000 in
theorem own_ef_rmIfW (m : MethodId) (x0 : Addr) : entryFrame m #[(.ref x0)] 2 = mkF m 0 #[.val (.ref x0), .unset] [] := by rfl
set_option maxRecDepth 65536 in
set_option maxHeartbeats 40000000 in
theorem rmIfW (l : Launch) (Z : State) (a0 : Array Value) (hw : ∀ d ∈ tables_1, d.before a0 Z = true) (z0 : Int32) (fm0 : Value) (gl : own_Gl Z z0 fm0) (ws : List Jvm.Cond) (a : Addr) (h0 : Heap) (n0 : Nat) (Z0 : n0 ≤ h0.size) (Xo : Old Z n0 h0) (Ea : Exa Z h0 a "java/lang/StringBuilder") (Fc : Fld Z h0 a "java/lang/AbstractStringBuilder" "coder" "B" (.int (1 : Int32))) :
    own_MetN l Z (⟨"java/lang/AbstractStringBuilder", "inflate", "()V"⟩ : MethodName) jdk_68_method_11_code 2 none ws ({ frames := 1, cells := 0, slots := 0, locals := 12 } : Room) #[(.ref a)] h0 (fun v h L => Fr n0 L ∧ h = h0 ∧ (((v = none)))) := by
  refine own_metN (plainFor_of_name own_pn1) ?_
  intro p e s m below meth c s₁ G hx hby hml hZ hown hnm hret X0 e0 go fin
  obtain ⟨O2, P5, O4, R4, O_ad, O_hi, O_lo⟩ := id gl
  have N0 := Fr.nil n0
  refine go _ _ (fun _ k => castTop (own_ef_rmIfW m a) k) ?_
  show G (s₁.setTop (mkF m 0 #[r' a, u'] []))
  refine go _ _ (fun _ k => XS.aloadN X0.here hx rfl (hb hby own_d47_0) rfl rfl k) ?_
  obtain ⟨rv101, T101, L101, X101, q101, st101⟩ := own_vi X0 hx hZ (y := (⟨"java/lang/AbstractStringBuilder", "isLatin1", "()Z"⟩ : MethodName)) (z := (⟨"java/lang/AbstractStringBuilder", "isLatin1", "()Z"⟩ : MethodName)) hown (ow hw 95 rfl) (ow hw 96 rfl) (ow hw 98 rfl) (ow hw 97 rfl) (Or.inl rfl) (by decide) (own_bkN (W := 0) (rmIb1 l Z a0 hw z0 fm0 gl [] a h0 n0 Z0 Xo Fc) hZ (ow hw 99 rfl) (ow hw 26 rfl) (by decide) (by decide)) e0 Ea (g := (mkF m 1 #[r' a, u'] [(.ref a)])) rfl (by rw [hml]; rfl) (argsL := []) (rest := []) rfl (lenOf own_pd8 rfl) rfl (by show 2 * 0 + _ ≤ _; exact Nat.le_of_eq rfl) (hb hby own_d47_1) (by decide) (by decide)
  obtain ⟨Nq101, e101, rfl⟩ := q101
  have N101 := Fr.app N0 Nq101
  refine go _ _ (st101) ?_
  show G (T101.setTop (mkF m 4 #[r' a, u'] [(.int 0)]))
  refine go _ _ (fun _ k => XS.ifNo X101.here hx rfl (hb hby own_d47_4) rfl (by decide) k) ?_
  show G (T101.setTop (mkF m 7 #[r' a, u'] []))
  refine fin T101 _ _ _ none X101 (fun _ => rfl) (by decide) (by decide) (by rw [e101]; exact ⟨N101, rfl, rfl⟩) _ (own_retV X101 hx hret (hb hby own_d47_7))
theorem own_d11_0 : decode jdk_68_method_71_code 0 = .ok (.getstatic 18, 3) := by decide +kernel
theorem own_d11_3 : decode jdk_68_method_71_code 3 = .ok (.ifCond .eq 18, 3) := by decide +kernel
theorem own_d11_6 : decode jdk_68_method_71_code 6 = .ok (.aload_n 0, 1) := by decide +kernel
theorem own_d11_7 : decode jdk_68_method_71_code 7 = .ok (.getfield 22, 3) := by decide +kernel
theorem own_d11_10 : decode jdk_68_method_71_code 10 = .ok (.aload_n 1, 1) := by decide +kernel
theorem own_d11_11 : decode jdk_68_method_71_code 11 = .ok (.invokevirtual 40, 3) := by decide +kernel
theorem own_d11_14 : decode jdk_68_method_71_code 14 = .ok (.if_icmp .eq 7, 3) := by decide +kernel
theorem own_d11_21 : decode jdk_68_method_71_code 21 = .ok (.return_, 1) := by decide +kernel
set_option maxHeartbeats 4000000 in
theorem own_ef_rmInS0 (m : MethodId) (x0 : Addr) (x1 : Addr) : entryFrame m #[(.ref x0), (.ref x1)] 2 = mkF m 0 #[.val (.ref x0), .val (.ref x1)] [] := by rfl
set_option maxRecDepth 65536 in
set_option maxHeartbeats 40000000 in
theorem rmInS0 (l : Launch) (Z : State) (a0 : Array Value) (hw : ∀ d ∈ tables_1, d.before a0 Z = true) (z0 : Int32) (fm0 : Value) (gl : own_Gl Z z0 fm0) (ws : List Jvm.Cond) (a : Addr) (q : Addr) (h0 : Heap) (n0 : Nat) (Z0 : n0 ≤ h0.size) (Xo : Old Z n0 h0) (Fc : Fld Z h0 a "java/lang/AbstractStringBuilder" "coder" "B" (.int (0 : Int32))) (Eq : Exa Z h0 q "java/lang/String") (Cq : Fld Z h0 q "java/lang/String" "coder" "B" (.int (0 : Int32))) :
    own_MetN l Z (⟨"java/lang/AbstractStringBuilder", "inflateIfNeededFor", "(Ljava/lang/String;)V"⟩ : MethodName) jdk_68_method_71_code 2 none ws ({ frames := 1, cells := 0, slots := 0, locals := 13 } : Room) #[(.ref a), (.ref q)] h0 (fun v h L => Fr n0 L ∧ h = h0 ∧ (((v = none)))) := by
  refine own_metN (plainFor_of_name own_pn1) ?_
  intro p e s m below meth c s₁ G hx hby hml hZ hown hnm hret X0 e0 go fin
  obtain ⟨O2, P5, O4, R4, O_ad, O_hi, O_lo⟩ := id gl
  have N0 := Fr.nil n0
  refine go _ _ (fun _ k => castTop (own_ef_rmInS0 m a q) k) ?_
  obtain ⟨T101, X101, e101, st101⟩ := getS2 X0 hx hZ (host := "") hown (Or.inl (ow hw 31 rfl)) Via.refl e0 (O2.ext Xo.2) (g := (mkF m 0 #[r' a, r' q] [])) rfl (hb hby own_d11_0)
  refine go _ _ (st101) ?_
  show G (T101.setTop (mkF m 3 #[r' a, r' q] [(.int z0)]))
  refine go _ _ (fun _ k => XS.ifNo X101.here hx rfl (hb hby own_d11_3) rfl ((if0 _ _).trans (feq P5).1) k) ?_
  show G (T101.setTop (mkF m 6 #[r' a, r' q] []))
  refine go _ _ (fun _ k => XS.aloadN X101.here hx rfl (hb hby own_d11_6) rfl rfl k) ?_
  obtain ⟨T102, X102, e102, st102⟩ := getF X101 hx hZ hown (host := "") (Or.inl (ow hw 34 rfl)) Via.refl e101 Fc (g := (mkF m 7 #[r' a, r' q] [(.ref a)])) rfl rfl (hb hby own_d11_7)
  refine go _ _ (st102) ?_
  show G (T102.setTop (mkF m 10 #[r' a, r' q] [(.int 0)]))
  refine go _ _ (fun _ k => XS.aloadN X102.here hx rfl (hb hby own_d11_10) rfl rfl k) ?_
  obtain ⟨rv103, T103, L103, X103, q103, st103⟩ := own_vi X102 hx hZ (y := (⟨"java/lang/String", "coder", "()B"⟩ : MethodName)) (z := (⟨"java/lang/String", "coder", "()B"⟩ : MethodName)) hown (ow hw 76 rfl) (ow hw 53 rfl) (ow hw 55 rfl) (ow hw 54 rfl) (Or.inl rfl) (by decide) (own_bkN (W := 1) (rmCo0 l Z a0 hw z0 fm0 gl [] q h0 n0 Z0 Xo Cq) hZ (ow hw 56 rfl) (ow hw 5 rfl) (by decide) (by decide)) e102 Eq (g := (mkF m 11 #[r' a, r' q] [(.ref q), (.int 0)])) rfl (by rw [hml]; rfl) (argsL := []) (rest := [(.int (0 : Int32))]) rfl (lenOf own_pd9 rfl) rfl (by show 2 * 0 + _ ≤ _; exact Nat.le_of_eq rfl) (hb hby own_d11_11) (by decide) (by decide)
  obtain ⟨Nq103, e103, rfl⟩ := q103
  have N103 := Fr.app N0 Nq103
  refine go _ _ (st103) ?_
  show G (T103.setTop (mkF m 14 #[r' a, r' q] [(.int 0), (.int 0)]))
  refine go _ _ (fun _ k => XS.icmpYes X103.here hx rfl (pc0 := 14) (pc' := 21) rfl (hb hby own_d11_14) rfl (by decide) (by decide) (by decide) k) ?_
  show G (T103.setTop (mkF m 21 #[r' a, r' q] []))
  refine fin T103 _ _ _ none X103 (fun _ => rfl) (by decide) (by decide) (by rw [e103]; exact ⟨N103, rfl, rfl⟩) _ (own_retV X103 hx hret (hb hby own_d11_21))
set_option maxHeartbeats 4000000 in
theorem own_ef_rmInS1 (m : MethodId) (x0 : Addr) (x1 : Addr) : entryFrame m #[(.ref x0), (.ref x1)] 2 = mkF m 0 #[.val (.ref x0), .val (.ref x1)] [] := by rfl
set_option maxRecDepth 65536 in
set_option maxHeartbeats 40000000 in
theorem rmInS1 (l : Launch) (Z : State) (a0 : Array Value) (hw : ∀ d ∈ tables_1, d.before a0 Z = true) (z0 : Int32) (fm0 : Value) (gl : own_Gl Z z0 fm0) (ws : List Jvm.Cond) (a : Addr) (q : Addr) (h0 : Heap) (n0 : Nat) (Z0 : n0 ≤ h0.size) (Xo : Old Z n0 h0) (Fc : Fld Z h0 a "java/lang/AbstractStringBuilder" "coder" "B" (.int (1 : Int32))) (Eq : Exa Z h0 q "java/lang/String") (Cq : Fld Z h0 q "java/lang/String" "coder" "B" (.int (1 : Int32))) :
    own_MetN l Z (⟨"java/lang/AbstractStringBuilder", "inflateIfNeededFor", "(Ljava/lang/String;)V"⟩ : MethodName) jdk_68_method_71_code 2 none ws ({ frames := 1, cells := 0, slots := 0, locals := 13 } : Room) #[(.ref a), (.ref q)] h0 (fun v h L => Fr n0 L ∧ h = h0 ∧ (((v = none)))) := by
  refine own_metN (plainFor_of_name own_pn1) ?_
  intro p e s m below meth c s₁ G hx hby hml hZ hown hnm hret X0 e0 go fin
  obtain ⟨O2, P5, O4, R4, O_ad, O_hi, O_lo⟩ := id gl
  have N0 := Fr.nil n0
  refine go _ _ (fun _ k => castTop (own_ef_rmInS1 m a q) k) ?_
  obtain ⟨T101, X101, e101, st101⟩ := getS2 X0 hx hZ (host := "") hown (Or.inl (ow hw 31 rfl)) Via.refl e0 (O2.ext Xo.2) (g := (mkF m 0 #[r' a, r' q] [])) rfl (hb hby own_d11_0)
  refine go _ _ (st101) ?_
  show G (T101.setTop (mkF m 3 #[r' a, r' q] [(.int z0)]))
  refine go _ _ (fun _ k => XS.ifNo X101.here hx rfl (hb hby own_d11_3) rfl ((if0 _ _).trans (feq P5).1) k) ?_
  show G (T101.setTop (mkF m 6 #[r' a, r' q] []))
  refine go _ _ (fun _ k => XS.aloadN X101.here hx rfl (hb hby own_d11_6) rfl rfl k) ?_
  obtain ⟨T102, X102, e102, st102⟩ := getF X101 hx hZ hown (host := "") (Or.inl (ow hw 34 rfl)) Via.refl e101 Fc (g := (mkF m 7 #[r' a, r' q] [(.ref a)])) rfl rfl (hb hby own_d11_7)
  refine go _ _ (st102) ?_
  show G (T102.setTop (mkF m 10 #[r' a, r' q] [(.int 1)]))
  refine go _ _ (fun _ k => XS.aloadN X102.here hx rfl (hb hby own_d11_10) rfl rfl k) ?_
  obtain ⟨rv103, T103, L103, X103, q103, st103⟩ := own_vi X102 hx hZ (y := (⟨"java/lang/String", "coder", "()B"⟩ : MethodName)) (z := (⟨"java/lang/String", "coder", "()B"⟩ : MethodName)) hown (ow hw 76 rfl) (ow hw 53 rfl) (ow hw 55 rfl) (ow hw 54 rfl) (Or.inl rfl) (by decide) (own_bkN (W := 1) (rmCo1 l Z a0 hw z0 fm0 gl [] q h0 n0 Z0 Xo Cq) hZ (ow hw 56 rfl) (ow hw 5 rfl) (by decide) (by decide)) e102 Eq (g := (mkF m 11 #[r' a, r' q] [(.ref q), (.int 1)])) rfl (by rw [hml]; rfl) (argsL := []) (rest := [(.int (1 : Int32))]) rfl (lenOf own_pd9 rfl) rfl (by show 2 * 0 + _ ≤ _; exact Nat.le_of_eq rfl) (hb hby own_d11_11) (by decide) (by decide)
  obtain ⟨Nq103, e103, rfl⟩ := q103
  have N103 := Fr.app N0 Nq103
  refine go _ _ (st103) ?_
  show G (T103.setTop (mkF m 14 #[r' a, r' q] [(.int 1), (.int 1)]))
  refine go _ _ (fun _ k => XS.icmpYes X103.here hx rfl (pc0 := 14) (pc' := 21) rfl (hb hby own_d11_14) rfl (by decide) (by decide) (by decide) k) ?_
  show G (T103.setTop (mkF m 21 #[r' a, r' q] []))
  refine fin T103 _ _ _ none X103 (fun _ => rfl) (by decide) (by decide) (by rw [e103]; exact ⟨N103, rfl, rfl⟩) _ (own_retV X103 hx hret (hb hby own_d11_21))
theorem own_d11_17 : decode jdk_68_method_71_code 17 = .ok (.aload_n 0, 1) := by decide +kernel
theorem own_pd23 : parseMethodDescriptor "()V" = some ⟨[], none⟩ := by decide +kernel
theorem own_d11_18 : decode jdk_68_method_71_code 18 = .ok (.invokevirtual 195, 3) := by decide +kernel
set_option maxHeartbeats 4000000 in
theorem own_ef_rmInWL (m : MethodId) (x0 : Addr) (x1 : Addr) : entryFrame m #[(.ref x0), (.ref x1)] 2 = mkF m 0 #[.val (.ref x0), .val (.ref x1)] [] := by rfl
set_option maxRecDepth 65536 in
set_option maxHeartbeats 40000000 in
theorem rmInWL (l : Launch) (Z : State) (a0 : Array Value) (hw : ∀ d ∈ tables_1, d.before a0 Z = true) (z0 : Int32) (fm0 : Value) (gl : own_Gl Z z0 fm0) (ws : List Jvm.Cond) (a : Addr) (q : Addr) (h0 : Heap) (n0 : Nat) (Z0 : n0 ≤ h0.size) (Xo : Old Z n0 h0) (Ea : Exa Z h0 a "java/lang/StringBuilder") (Fc : Fld Z h0 a "java/lang/AbstractStringBuilder" "coder" "B" (.int (1 : Int32))) (Eq : Exa Z h0 q "java/lang/String") (Cq : Fld Z h0 q "java/lang/String" "coder" "B" (.int (0 : Int32))) :
    own_MetN l Z (⟨"java/lang/AbstractStringBuilder", "inflateIfNeededFor", "(Ljava/lang/String;)V"⟩ : MethodName) jdk_68_method_71_code 2 none ws ({ frames := 2, cells := 0, slots := 0, locals := 25 } : Room) #[(.ref a), (.ref q)] h0 (fun v h L => Fr n0 L ∧ h = h0 ∧ (((v = none)))) := by
  refine own_metN (plainFor_of_name own_pn1) ?_
  intro p e s m below meth c s₁ G hx hby hml hZ hown hnm hret X0 e0 go fin
  obtain ⟨O2, P5, O4, R4, O_ad, O_hi, O_lo⟩ := id gl
  have N0 := Fr.nil n0
  refine go _ _ (fun _ k => castTop (own_ef_rmInWL m a q) k) ?_
  obtain ⟨T101, X101, e101, st101⟩ := getS2 X0 hx hZ (host := "") hown (Or.inl (ow hw 31 rfl)) Via.refl e0 (O2.ext Xo.2) (g := (mkF m 0 #[r' a, r' q] [])) rfl (hb hby own_d11_0)
  refine go _ _ (st101) ?_
  show G (T101.setTop (mkF m 3 #[r' a, r' q] [(.int z0)]))
  refine go _ _ (fun _ k => XS.ifNo X101.here hx rfl (hb hby own_d11_3) rfl ((if0 _ _).trans (feq P5).1) k) ?_
  show G (T101.setTop (mkF m 6 #[r' a, r' q] []))
  refine go _ _ (fun _ k => XS.aloadN X101.here hx rfl (hb hby own_d11_6) rfl rfl k) ?_
  obtain ⟨T102, X102, e102, st102⟩ := getF X101 hx hZ hown (host := "") (Or.inl (ow hw 34 rfl)) Via.refl e101 Fc (g := (mkF m 7 #[r' a, r' q] [(.ref a)])) rfl rfl (hb hby own_d11_7)
  refine go _ _ (st102) ?_
  show G (T102.setTop (mkF m 10 #[r' a, r' q] [(.int 1)]))
  refine go _ _ (fun _ k => XS.aloadN X102.here hx rfl (hb hby own_d11_10) rfl rfl k) ?_
  obtain ⟨rv103, T103, L103, X103, q103, st103⟩ := own_vi X102 hx hZ (y := (⟨"java/lang/String", "coder", "()B"⟩ : MethodName)) (z := (⟨"java/lang/String", "coder", "()B"⟩ : MethodName)) hown (ow hw 76 rfl) (ow hw 53 rfl) (ow hw 55 rfl) (ow hw 54 rfl) (Or.inl rfl) (by decide) (own_bkN (W := 1) (rmCo0 l Z a0 hw z0 fm0 gl [] q h0 n0 Z0 Xo Cq) hZ (ow hw 56 rfl) (ow hw 5 rfl) (by decide) (by decide)) e102 Eq (g := (mkF m 11 #[r' a, r' q] [(.ref q), (.int 1)])) rfl (by rw [hml]; rfl) (argsL := []) (rest := [(.int (1 : Int32))]) rfl (lenOf own_pd9 rfl) rfl (by show 2 * 0 + _ ≤ _; exact Nat.le_of_eq rfl) (hb hby own_d11_11) (by decide) (by decide)
  obtain ⟨Nq103, e103, rfl⟩ := q103
  have N103 := Fr.app N0 Nq103
  refine go _ _ (st103) ?_
  show G (T103.setTop (mkF m 14 #[r' a, r' q] [(.int 0), (.int 1)]))
  refine go _ _ (fun _ k => XS.icmpNo X103.here hx rfl (hb hby own_d11_14) rfl (by decide) k) ?_
  show G (T103.setTop (mkF m 17 #[r' a, r' q] []))
  refine go _ _ (fun _ k => XS.aloadN X103.here hx rfl (hb hby own_d11_17) rfl rfl k) ?_
  obtain ⟨rv104, T104, L104, X104, q104, st104⟩ := own_pr X103 hx hZ (y := (⟨"java/lang/AbstractStringBuilder", "inflate", "()V"⟩ : MethodName)) hown (ow hw 223 rfl) (ow hw 224 rfl) (ow hw 226 rfl) (ow hw 225 rfl) (ow hw 227 rfl) (by decide) (own_bkN (W := 0) (rmIfW l Z a0 hw z0 fm0 gl [] a h0 n0 Z0 Xo Ea Fc) hZ (ow hw 227 rfl) (ow hw 26 rfl) (by decide) (by decide)) e103 Ea (g := (mkF m 18 #[r' a, r' q] [(.ref a)])) rfl (by rw [hml]; rfl) (argsL := []) (rest := []) rfl (lenOf own_pd23 rfl) rfl (by show 2 * 0 + _ ≤ _; exact Nat.le_of_eq rfl) (hb hby own_d11_18) (by decide) (by decide)
  obtain ⟨Nq104, e104, rfl⟩ := q104
  have N104 := Fr.app N103 Nq104
  refine go _ _ (st104) ?_
  show G (T104.setTop (mkF m 21 #[r' a, r' q] []))
  refine fin T104 _ _ _ none X104 (fun _ => rfl) (by decide) (by decide) (by rw [e104]; exact ⟨N104, rfl, rfl⟩) _ (own_retV X104 hx hret (hb hby own_d11_21))
set_option maxHeartbeats 4000000 in
theorem own_ef_rmInLW (m : MethodId) (x0 : Addr) (x1 : Addr) : entryFrame m #[(.ref x0), (.ref x1)] 2 = mkF m 0 #[.val (.ref x0), .val (.ref x1)] [] := by rfl
set_option maxRecDepth 65536 in
set_option maxHeartbeats 40000000 in
theorem rmInLW (l : Launch) (Z : State) (a0 : Array Value) (hw : ∀ d ∈ tables_1, d.before a0 Z = true) (z0 : Int32) (fm0 : Value) (gl : own_Gl Z z0 fm0) (ws : List Jvm.Cond) (a : Addr) (q : Addr) (t : Addr) (kb : ClassId) (cs : List Int32) (h0 : Heap) (n0 : Nat) (Z0 : n0 ≤ h0.size) (Xo : Old Z n0 h0) (Ea : Exa Z h0 a "java/lang/StringBuilder") (Fv : Fld Z h0 a "java/lang/AbstractStringBuilder" "value" "[B" (.ref t)) (Fc : Fld Z h0 a "java/lang/AbstractStringBuilder" "coder" "B" (.int (0 : Int32))) (Fn : Fld Z h0 a "java/lang/AbstractStringBuilder" "count" "I" (.int (own_n cs))) (Fm : Fld Z h0 a "java/lang/AbstractStringBuilder" "maybeLatin1" "Z" (.int (0 : Int32))) (At : Arv Z h0 t kb .byte (16 : Int32) (own_bs cs) (.int (0 : Int32))) (hb8c : own_b8 cs) (hbdc : own_bd cs) (hlc : cs.length ≤ 16) (Eq : Exa Z h0 q "java/lang/String") (Cq : Fld Z h0 q "java/lang/String" "coder" "B" (.int (1 : Int32))) (gz_a : n0 ≤ a) :
    own_MetN l Z (⟨"java/lang/AbstractStringBuilder", "inflateIfNeededFor", "(Ljava/lang/String;)V"⟩ : MethodName) jdk_68_method_71_code 2 none ws ({ frames := 6, cells := 1, slots := 32, locals := 89 } : Room) #[(.ref a), (.ref q)] h0 (fun v h L => Fr n0 L ∧ Keep h0 h [a] ∧ ((∃ (t2 : Addr) (kb2 : ClassId), (v = none) ∧ (h0.size ≤ t2) ∧ (Exa Z h a "java/lang/StringBuilder") ∧ (Fld Z h a "java/lang/AbstractStringBuilder" "value" "[B" (.ref t2)) ∧ (Fld Z h a "java/lang/AbstractStringBuilder" "coder" "B" (.int (1 : Int32))) ∧ (Fld Z h a "java/lang/AbstractStringBuilder" "count" "I" (.int (own_n cs))) ∧ (Fld Z h a "java/lang/AbstractStringBuilder" "maybeLatin1" "Z" (.int (0 : Int32))) ∧ (Arv Z h t2 kb2 .byte (32 : Int32) (own_u cs) (.int (0 : Int32)))))) := by
  refine own_metN (plainFor_of_name own_pn1) ?_
  intro p e s m below meth c s₁ G hx hby hml hZ hown hnm hret X0 e0 go fin
  obtain ⟨O2, P5, O4, R4, O_ad, O_hi, O_lo⟩ := id gl
  have N0 := Fr.nil n0
  refine go _ _ (fun _ k => castTop (own_ef_rmInLW m a q) k) ?_
  obtain ⟨T101, X101, e101, st101⟩ := getS2 X0 hx hZ (host := "") hown (Or.inl (ow hw 31 rfl)) Via.refl e0 (O2.ext Xo.2) (g := (mkF m 0 #[r' a, r' q] [])) rfl (hb hby own_d11_0)
  refine go _ _ (st101) ?_
  show G (T101.setTop (mkF m 3 #[r' a, r' q] [(.int z0)]))
  refine go _ _ (fun _ k => XS.ifNo X101.here hx rfl (hb hby own_d11_3) rfl ((if0 _ _).trans (feq P5).1) k) ?_
  show G (T101.setTop (mkF m 6 #[r' a, r' q] []))
  refine go _ _ (fun _ k => XS.aloadN X101.here hx rfl (hb hby own_d11_6) rfl rfl k) ?_
  obtain ⟨T102, X102, e102, st102⟩ := getF X101 hx hZ hown (host := "") (Or.inl (ow hw 34 rfl)) Via.refl e101 Fc (g := (mkF m 7 #[r' a, r' q] [(.ref a)])) rfl rfl (hb hby own_d11_7)
  refine go _ _ (st102) ?_
  show G (T102.setTop (mkF m 10 #[r' a, r' q] [(.int 0)]))
  refine go _ _ (fun _ k => XS.aloadN X102.here hx rfl (hb hby own_d11_10) rfl rfl k) ?_
  obtain ⟨rv103, T103, L103, X103, q103, st103⟩ := own_vi X102 hx hZ (y := (⟨"java/lang/String", "coder", "()B"⟩ : MethodName)) (z := (⟨"java/lang/String", "coder", "()B"⟩ : MethodName)) hown (ow hw 76 rfl) (ow hw 53 rfl) (ow hw 55 rfl) (ow hw 54 rfl) (Or.inl rfl) (by decide) (own_bkN (W := 1) (rmCo1 l Z a0 hw z0 fm0 gl [] q h0 n0 Z0 Xo Cq) hZ (ow hw 56 rfl) (ow hw 5 rfl) (by decide) (by decide)) e102 Eq (g := (mkF m 11 #[r' a, r' q] [(.ref q), (.int 0)])) rfl (by rw [hml]; rfl) (argsL := []) (rest := [(.int (0 : Int32))]) rfl (lenOf own_pd9 rfl) rfl (by show 2 * 0 + _ ≤ _; exact Nat.le_of_eq rfl) (hb hby own_d11_11) (by decide) (by decide)
  obtain ⟨Nq103, e103, rfl⟩ := q103
  have N103 := Fr.app N0 Nq103
  refine go _ _ (st103) ?_
  show G (T103.setTop (mkF m 14 #[r' a, r' q] [(.int 1), (.int 0)]))
  refine go _ _ (fun _ k => XS.icmpNo X103.here hx rfl (hb hby own_d11_14) rfl (by decide) k) ?_
  show G (T103.setTop (mkF m 17 #[r' a, r' q] []))
  refine go _ _ (fun _ k => XS.aloadN X103.here hx rfl (hb hby own_d11_17) rfl rfl k) ?_
  obtain ⟨rv104, T104, L104, X104, q104, st104⟩ := own_pr X103 hx hZ (y := (⟨"java/lang/AbstractStringBuilder", "inflate", "()V"⟩ : MethodName)) hown (ow hw 223 rfl) (ow hw 224 rfl) (ow hw 226 rfl) (ow hw 225 rfl) (ow hw 227 rfl) (by decide) (own_bkN (W := 0) (rmIfL l Z a0 hw z0 fm0 gl [] a t kb cs h0 n0 Z0 Xo Ea Fv Fc Fn Fm At hb8c hbdc hlc gz_a) hZ (ow hw 227 rfl) (ow hw 26 rfl) (by decide) (by decide)) e103 Ea (g := (mkF m 18 #[r' a, r' q] [(.ref a)])) rfl (by rw [hml]; rfl) (argsL := []) (rest := []) rfl (lenOf own_pd23 rfl) rfl (by show 2 * 0 + _ ≤ _; exact Nat.le_of_eq rfl) (hb hby own_d11_18) (by decide) (by decide)
  obtain ⟨Nq104, Kp104, ⟨t2_105, kb2_106, rfl, z107, f108, f109, f110, f111, f112, f113⟩⟩ := q104
  have N104 := Fr.app N103 Nq104
  refine go _ _ (st104) ?_
  show G (T104.setTop (mkF m 21 #[r' a, r' q] []))
  have K114 : Keep h0 T104.heap [a] := (Keep.refl h0 [a]).trans Kp104 (allS (Or.inl (List.mem_of_getElem? (i := 0) rfl)) all0)
  refine fin T104 _ _ _ none X104 (fun _ => rfl) (by decide) (by decide) ⟨N104, K114, ⟨t2_105, kb2_106, rfl, z107, f108, f109, f110, f111, f112, f113⟩⟩ _ (own_retV X104 hx hret (hb hby own_d11_21))
theorem own_d12_0 : decode jdk_42_method_147_code 0 = .ok (.aload_n 0, 1) := by decide +kernel
theorem own_d12_1 : decode jdk_42_method_147_code 1 = .ok (.invokevirtual 335, 3) := by decide +kernel
theorem own_d12_4 : decode jdk_42_method_147_code 4 = .ok (.iload_n 3, 1) := by decide +kernel
theorem own_d12_5 : decode jdk_42_method_147_code 5 = .ok (.if_icmp .ne 23, 3) := by decide +kernel
theorem own_d12_8 : decode jdk_42_method_147_code 8 = .ok (.aload_n 0, 1) := by decide +kernel
theorem own_d12_9 : decode jdk_42_method_147_code 9 = .ok (.getfield 9, 3) := by decide +kernel
theorem own_d12_12 : decode jdk_42_method_147_code 12 = .ok (.iconst 0, 1) := by decide +kernel
theorem own_d12_13 : decode jdk_42_method_147_code 13 = .ok (.aload_n 1, 1) := by decide +kernel
theorem own_d12_14 : decode jdk_42_method_147_code 14 = .ok (.iload_n 2, 1) := by decide +kernel
theorem own_d12_15 : decode jdk_42_method_147_code 15 = .ok (.iload_n 3, 1) := by decide +kernel
theorem own_d12_16 : decode jdk_42_method_147_code 16 = .ok (.ishl, 1) := by decide +kernel
theorem own_d12_17 : decode jdk_42_method_147_code 17 = .ok (.aload_n 0, 1) := by decide +kernel
theorem own_d12_18 : decode jdk_42_method_147_code 18 = .ok (.getfield 9, 3) := by decide +kernel
theorem own_d12_21 : decode jdk_42_method_147_code 21 = .ok (.arraylength, 1) := by decide +kernel
theorem own_d12_22 : decode jdk_42_method_147_code 22 = .ok (.invokestatic 212, 3) := by decide +kernel
theorem own_d12_25 : decode jdk_42_method_147_code 25 = .ok (.goto 18, 3) := by decide +kernel
theorem own_d12_43 : decode jdk_42_method_147_code 43 = .ok (.return_, 1) := by decide +kernel
set_option maxHeartbeats 4000000 in
theorem own_ef_rmGbL (m : MethodId) (x0 : Addr) (x1 : Addr) (x2 : Int32) (x3 : Int32) : entryFrame m #[(.ref x0), (.ref x1), (.int x2), (.int x3)] 4 = mkF m 0 #[.val (.ref x0), .val (.ref x1), .val (.int x2), .val (.int x3)] [] := by rfl
set_option maxRecDepth 65536 in
set_option maxHeartbeats 40000000 in
theorem rmGbL (l : Launch) (Z : State) (a0 : Array Value) (hw : ∀ d ∈ tables_1, d.before a0 Z = true) (z0 : Int32) (fm0 : Value) (gl : own_Gl Z z0 fm0) (ws : List Jvm.Cond) (q : Addr) (t : Addr) (i : Int32) (kb : ClassId) (cs : List Int32) (to : Addr) (kq : ClassId) (ds : List Int32) (h0 : Heap) (n0 : Nat) (Z0 : n0 ≤ h0.size) (Xo : Old Z n0 h0) (At : Arv Z h0 t kb .byte (16 : Int32) (own_bs cs) (.int (0 : Int32))) (Eq : Exa Z h0 q "java/lang/String") (Cq : Fld Z h0 q "java/lang/String" "coder" "B" (.int (0 : Int32))) (Vq : Fld Z h0 q "java/lang/String" "value" "[B" (.ref to)) (Aq : Arv Z h0 to kq .byte (own_n ds) (own_bs ds) (.int (0 : Int32))) (hi : i = (own_n cs)) (hz : cs.length + ds.length ≤ 16) (gz_t : n0 ≤ t) :
    own_MetN l Z (⟨"java/lang/String", "getBytes", "([BIB)V"⟩ : MethodName) jdk_42_method_147_code 4 none ws ({ frames := 1, cells := 0, slots := 0, locals := 27 } : Room) #[(.ref q), (.ref t), (.int i), (.int (0 : Int32))] h0 (fun v h L => Fr n0 L ∧ Keep h0 h [t] ∧ (((v = none) ∧ (Arv Z h t kb .byte (16 : Int32) (own_bs (cs ++ ds)) (.int (0 : Int32)))))) := by
  refine own_metN (plainFor_of_name own_pn0) ?_
  intro p e s m below meth c s₁ G hx hby hml hZ hown hnm hret X0 e0 go fin
  obtain ⟨O2, P5, O4, R4, O_ad, O_hi, O_lo⟩ := id gl
  have N0 := Fr.nil n0
  refine go _ _ (fun _ k => castTop (own_ef_rmGbL m q t i (0 : Int32)) k) ?_
  show G (s₁.setTop (mkF m 0 #[r' q, r' t, i' i, i' 0] []))
  subst hi
  show G (s₁.setTop (mkF m 0 #[r' q, r' t, i' (own_n cs), i' 0] []))
  refine go _ _ (fun _ k => XS.aloadN X0.here hx rfl (hb hby own_d12_0) rfl rfl k) ?_
  obtain ⟨rv101, T101, L101, X101, q101, st101⟩ := own_vi X0 hx hZ (y := (⟨"java/lang/String", "coder", "()B"⟩ : MethodName)) (z := (⟨"java/lang/String", "coder", "()B"⟩ : MethodName)) hown (ow hw 52 rfl) (ow hw 53 rfl) (ow hw 55 rfl) (ow hw 54 rfl) (Or.inl rfl) (by decide) (own_bkN (W := 0) (rmCo0 l Z a0 hw z0 fm0 gl [] q h0 n0 Z0 Xo Cq) hZ (ow hw 56 rfl) (ow hw 5 rfl) (by decide) (by decide)) e0 Eq (g := (mkF m 1 #[r' q, r' t, i' (own_n cs), i' 0] [(.ref q)])) rfl (by rw [hml]; rfl) (argsL := []) (rest := []) rfl (lenOf own_pd9 rfl) rfl (by show 2 * 0 + _ ≤ _; exact Nat.le_of_eq rfl) (hb hby own_d12_1) (by decide) (by decide)
  obtain ⟨Nq101, e101, rfl⟩ := q101
  have N101 := Fr.app N0 Nq101
  refine go _ _ (st101) ?_
  show G (T101.setTop (mkF m 4 #[r' q, r' t, i' (own_n cs), i' 0] [(.int 0)]))
  refine go _ _ (fun _ k => XS.iloadN X101.here hx rfl (hb hby own_d12_4) rfl k) ?_
  show G (T101.setTop (mkF m 5 #[r' q, r' t, i' (own_n cs), i' 0] [(.int 0), (.int 0)]))
  refine go _ _ (fun _ k => XS.icmpNo X101.here hx rfl (hb hby own_d12_5) rfl (by decide) k) ?_
  show G (T101.setTop (mkF m 8 #[r' q, r' t, i' (own_n cs), i' 0] []))
  refine go _ _ (fun _ k => XS.aloadN X101.here hx rfl (hb hby own_d12_8) rfl rfl k) ?_
  obtain ⟨T102, X102, e102, st102⟩ := getF X101 hx hZ hown (host := "") (Or.inl (ow hw 51 rfl)) Via.refl e101 Vq (g := (mkF m 9 #[r' q, r' t, i' (own_n cs), i' 0] [(.ref q)])) rfl rfl (hb hby own_d12_9)
  refine go _ _ (st102) ?_
  show G (T102.setTop (mkF m 12 #[r' q, r' t, i' (own_n cs), i' 0] [(.ref to)]))
  refine go _ _ (fun _ k => XS.iconst X102.here hx rfl (hb hby own_d12_12) (XS.aloadN X102.here hx rfl (hb hby own_d12_13) rfl rfl (XS.iloadN X102.here hx rfl (hb hby own_d12_14) rfl (XS.iloadN X102.here hx rfl (hb hby own_d12_15) rfl (XS.ishl X102.here hx rfl (hb hby own_d12_16) rfl k))))) ?_
  show G (T102.setTop (mkF m 17 #[r' q, r' t, i' (own_n cs), i' 0] [(.int ((own_n cs) <<< ((0 : Int32) &&& 31))), (.ref t), (.int 0), (.ref to)]))
  rw [(own_shl0 (own_n cs))]
  show G (T102.setTop (mkF m 17 #[r' q, r' t, i' (own_n cs), i' 0] [(.int (own_n cs)), (.ref t), (.int 0), (.ref to)]))
  refine go _ _ (fun _ k => XS.aloadN X102.here hx rfl (hb hby own_d12_17) rfl rfl k) ?_
  obtain ⟨T103, X103, e103, st103⟩ := getF X102 hx hZ hown (host := "") (Or.inl (ow hw 51 rfl)) Via.refl e102 Vq (g := (mkF m 18 #[r' q, r' t, i' (own_n cs), i' 0] [(.ref q), (.int (own_n cs)), (.ref t), (.int 0), (.ref to)])) rfl rfl (hb hby own_d12_18)
  refine go _ _ (st103) ?_
  show G (T103.setTop (mkF m 21 #[r' q, r' t, i' (own_n cs), i' 0] [(.ref to), (.int (own_n cs)), (.ref t), (.int 0), (.ref to)]))
  obtain ⟨cl104, Ar104, q104, S104, M104, H104, U104⟩ := id Aq
  refine go _ _ (fun _ k => X103.arraylength hx (by rw [e103]; exact Ar104.1) (State.isArrayOf_alike hZ.alike Ar104.2.1) (g := (mkF m 21 #[r' q, r' t, i' (own_n cs), i' 0] [(.ref to), (.int (own_n cs)), (.ref t), (.int 0), (.ref to)])) rfl rfl (hb hby own_d12_21) _ k) ?_
  show G (T103.setTop (mkF m 22 #[r' q, r' t, i' (own_n cs), i' 0] [(.int cl104.slots.size.toInt32), (.int (own_n cs)), (.ref t), (.int 0), (.ref to)]))
  rw [len_of S104 M104]
  show G (T103.setTop (mkF m 22 #[r' q, r' t, i' (own_n cs), i' 0] [(.int (own_n ds)), (.int (own_n cs)), (.ref t), (.int 0), (.ref to)]))
  obtain ⟨T105, h105, L105, X105, e105, N105, Kp105, V105, st105⟩ := own_cpv X103 hx hZ hown (ow hw 82 rfl) (ow hw 85 rfl) (ow hw 83 rfl) (ow hw 84 rfl) e103 (nn := (own_n ds)) (dp := (own_n cs)) Aq At (own_nb (cs := ds) (by omega)) (own_nb (cs := cs) (by omega)) (Nat.le_of_eq (own_nb (cs := ds) (by omega)).1.symm) (by rw [own_bs_len, own_bs_len]; exact hz) N101 gz_t (g := (mkF m 22 #[r' q, r' t, i' (own_n cs), i' 0] [(.int (own_n ds)), (.int (own_n cs)), (.ref t), (.int 0), (.ref to)])) rfl (by rw [hml]; rfl) (rest := []) rfl (hb hby own_d12_22) (by decide) (W := 0) (by show 2 * 0 + _ ≤ _; exact Nat.le_of_eq rfl) (by decide)
  rw [← own_bs_app] at V105
  refine go _ _ (st105) ?_
  show G (T105.setTop (mkF m 25 #[r' q, r' t, i' (own_n cs), i' 0] []))
  refine go _ _ (fun _ k => XS.goto X105.here hx rfl (pc0 := 25) (pc' := 43) rfl (hb hby own_d12_25) (by decide) (by decide) k) ?_
  show G (T105.setTop (mkF m 43 #[r' q, r' t, i' (own_n cs), i' 0] []))
  have K106 : Keep h0 h105 [t] := (Keep.refl h0 [t]).trans Kp105 (allS (Or.inl (List.mem_of_getElem? (i := 0) rfl)) all0)
  refine fin T105 _ _ _ none X105 (fun _ => rfl) (by decide) (by decide) (by rw [e105]; exact ⟨N105, K106, ⟨rfl, V105⟩⟩) _ (own_retV X105 hx hret (hb hby own_d12_43))
set_option maxHeartbeats 4000000 in
theorem own_ef_rmGbW (m : MethodId) (x0 : Addr) (x1 : Addr) (x2 : Int32) (x3 : Int32) : entryFrame m #[(.ref x0), (.ref x1), (.int x2), (.int x3)] 4 = mkF m 0 #[.val (.ref x0), .val (.ref x1), .val (.int x2), .val (.int x3)] [] := by rfl
set_option maxRecDepth 65536 in
set_option maxHeartbeats 40000000 in
theorem rmGbW (l : Launch) (Z : State) (a0 : Array Value) (hw : ∀ d ∈ tables_1, d.before a0 Z = true) (z0 : Int32) (fm0 : Value) (gl : own_Gl Z z0 fm0) (ws : List Jvm.Cond) (q : Addr) (t : Addr) (i : Int32) (kb : ClassId) (cs : List Int32) (to : Addr) (kq : ClassId) (ds : List Int32) (h0 : Heap) (n0 : Nat) (Z0 : n0 ≤ h0.size) (Xo : Old Z n0 h0) (At : Arv Z h0 t kb .byte (32 : Int32) (own_u cs) (.int (0 : Int32))) (Eq : Exa Z h0 q "java/lang/String") (Cq : Fld Z h0 q "java/lang/String" "coder" "B" (.int (1 : Int32))) (Vq : Fld Z h0 q "java/lang/String" "value" "[B" (.ref to)) (Aq : Arv Z h0 to kq .byte (own_n2 ds) (own_u ds) (.int (0 : Int32))) (hi : i = (own_n cs)) (hz : cs.length + ds.length ≤ 16) (gz_t : n0 ≤ t) :
    own_MetN l Z (⟨"java/lang/String", "getBytes", "([BIB)V"⟩ : MethodName) jdk_42_method_147_code 4 none ws ({ frames := 1, cells := 0, slots := 0, locals := 27 } : Room) #[(.ref q), (.ref t), (.int i), (.int (1 : Int32))] h0 (fun v h L => Fr n0 L ∧ Keep h0 h [t] ∧ (((v = none) ∧ (Arv Z h t kb .byte (32 : Int32) (own_u (cs ++ ds)) (.int (0 : Int32)))))) := by
  refine own_metN (plainFor_of_name own_pn0) ?_
  intro p e s m below meth c s₁ G hx hby hml hZ hown hnm hret X0 e0 go fin
  obtain ⟨O2, P5, O4, R4, O_ad, O_hi, O_lo⟩ := id gl
  have N0 := Fr.nil n0
  refine go _ _ (fun _ k => castTop (own_ef_rmGbW m q t i (1 : Int32)) k) ?_
  show G (s₁.setTop (mkF m 0 #[r' q, r' t, i' i, i' 1] []))
  subst hi
  show G (s₁.setTop (mkF m 0 #[r' q, r' t, i' (own_n cs), i' 1] []))
  refine go _ _ (fun _ k => XS.aloadN X0.here hx rfl (hb hby own_d12_0) rfl rfl k) ?_
  obtain ⟨rv101, T101, L101, X101, q101, st101⟩ := own_vi X0 hx hZ (y := (⟨"java/lang/String", "coder", "()B"⟩ : MethodName)) (z := (⟨"java/lang/String", "coder", "()B"⟩ : MethodName)) hown (ow hw 52 rfl) (ow hw 53 rfl) (ow hw 55 rfl) (ow hw 54 rfl) (Or.inl rfl) (by decide) (own_bkN (W := 0) (rmCo1 l Z a0 hw z0 fm0 gl [] q h0 n0 Z0 Xo Cq) hZ (ow hw 56 rfl) (ow hw 5 rfl) (by decide) (by decide)) e0 Eq (g := (mkF m 1 #[r' q, r' t, i' (own_n cs), i' 1] [(.ref q)])) rfl (by rw [hml]; rfl) (argsL := []) (rest := []) rfl (lenOf own_pd9 rfl) rfl (by show 2 * 0 + _ ≤ _; exact Nat.le_of_eq rfl) (hb hby own_d12_1) (by decide) (by decide)
  obtain ⟨Nq101, e101, rfl⟩ := q101
  have N101 := Fr.app N0 Nq101
  refine go _ _ (st101) ?_
  show G (T101.setTop (mkF m 4 #[r' q, r' t, i' (own_n cs), i' 1] [(.int 1)]))
  refine go _ _ (fun _ k => XS.iloadN X101.here hx rfl (hb hby own_d12_4) rfl k) ?_
  show G (T101.setTop (mkF m 5 #[r' q, r' t, i' (own_n cs), i' 1] [(.int 1), (.int 1)]))
  refine go _ _ (fun _ k => XS.icmpNo X101.here hx rfl (hb hby own_d12_5) rfl (by decide) k) ?_
  show G (T101.setTop (mkF m 8 #[r' q, r' t, i' (own_n cs), i' 1] []))
  refine go _ _ (fun _ k => XS.aloadN X101.here hx rfl (hb hby own_d12_8) rfl rfl k) ?_
  obtain ⟨T102, X102, e102, st102⟩ := getF X101 hx hZ hown (host := "") (Or.inl (ow hw 51 rfl)) Via.refl e101 Vq (g := (mkF m 9 #[r' q, r' t, i' (own_n cs), i' 1] [(.ref q)])) rfl rfl (hb hby own_d12_9)
  refine go _ _ (st102) ?_
  show G (T102.setTop (mkF m 12 #[r' q, r' t, i' (own_n cs), i' 1] [(.ref to)]))
  refine go _ _ (fun _ k => XS.iconst X102.here hx rfl (hb hby own_d12_12) (XS.aloadN X102.here hx rfl (hb hby own_d12_13) rfl rfl (XS.iloadN X102.here hx rfl (hb hby own_d12_14) rfl (XS.iloadN X102.here hx rfl (hb hby own_d12_15) rfl (XS.ishl X102.here hx rfl (hb hby own_d12_16) rfl k))))) ?_
  show G (T102.setTop (mkF m 17 #[r' q, r' t, i' (own_n cs), i' 1] [(.int ((own_n cs) <<< ((1 : Int32) &&& 31))), (.ref t), (.int 0), (.ref to)]))
  rw [(own_shl2 (cs := cs) (by omega))]
  show G (T102.setTop (mkF m 17 #[r' q, r' t, i' (own_n cs), i' 1] [(.int (own_n2 cs)), (.ref t), (.int 0), (.ref to)]))
  refine go _ _ (fun _ k => XS.aloadN X102.here hx rfl (hb hby own_d12_17) rfl rfl k) ?_
  obtain ⟨T103, X103, e103, st103⟩ := getF X102 hx hZ hown (host := "") (Or.inl (ow hw 51 rfl)) Via.refl e102 Vq (g := (mkF m 18 #[r' q, r' t, i' (own_n cs), i' 1] [(.ref q), (.int (own_n2 cs)), (.ref t), (.int 0), (.ref to)])) rfl rfl (hb hby own_d12_18)
  refine go _ _ (st103) ?_
  show G (T103.setTop (mkF m 21 #[r' q, r' t, i' (own_n cs), i' 1] [(.ref to), (.int (own_n2 cs)), (.ref t), (.int 0), (.ref to)]))
  obtain ⟨cl104, Ar104, q104, S104, M104, H104, U104⟩ := id Aq
  refine go _ _ (fun _ k => X103.arraylength hx (by rw [e103]; exact Ar104.1) (State.isArrayOf_alike hZ.alike Ar104.2.1) (g := (mkF m 21 #[r' q, r' t, i' (own_n cs), i' 1] [(.ref to), (.int (own_n2 cs)), (.ref t), (.int 0), (.ref to)])) rfl rfl (hb hby own_d12_21) _ k) ?_
  show G (T103.setTop (mkF m 22 #[r' q, r' t, i' (own_n cs), i' 1] [(.int cl104.slots.size.toInt32), (.int (own_n2 cs)), (.ref t), (.int 0), (.ref to)]))
  rw [len_of S104 M104]
  show G (T103.setTop (mkF m 22 #[r' q, r' t, i' (own_n cs), i' 1] [(.int (own_n2 ds)), (.int (own_n2 cs)), (.ref t), (.int 0), (.ref to)]))
  obtain ⟨T105, h105, L105, X105, e105, N105, Kp105, V105, st105⟩ := own_cpv X103 hx hZ hown (ow hw 82 rfl) (ow hw 85 rfl) (ow hw 83 rfl) (ow hw 84 rfl) e103 (nn := (own_n2 ds)) (dp := (own_n2 cs)) Aq At (own_nu (cs := ds) (by omega)) (own_nu (cs := cs) (by omega)) (Nat.le_of_eq (own_nu (cs := ds) (by omega)).1.symm) (by rw [own_u_len, own_u_len]; exact (show 2 * cs.length + 2 * ds.length ≤ 32 by omega)) N101 gz_t (g := (mkF m 22 #[r' q, r' t, i' (own_n cs), i' 1] [(.int (own_n2 ds)), (.int (own_n2 cs)), (.ref t), (.int 0), (.ref to)])) rfl (by rw [hml]; rfl) (rest := []) rfl (hb hby own_d12_22) (by decide) (W := 0) (by show 2 * 0 + _ ≤ _; exact Nat.le_of_eq rfl) (by decide)
  rw [← own_u_app] at V105
  refine go _ _ (st105) ?_
  show G (T105.setTop (mkF m 25 #[r' q, r' t, i' (own_n cs), i' 1] []))
  refine go _ _ (fun _ k => XS.goto X105.here hx rfl (pc0 := 25) (pc' := 43) rfl (hb hby own_d12_25) (by decide) (by decide) k) ?_
  show G (T105.setTop (mkF m 43 #[r' q, r' t, i' (own_n cs), i' 1] []))
  have K106 : Keep h0 h105 [t] := (Keep.refl h0 [t]).trans Kp105 (allS (Or.inl (List.mem_of_getElem? (i := 0) rfl)) all0)
  refine fin T105 _ _ _ none X105 (fun _ => rfl) (by decide) (by decide) (by rw [e105]; exact ⟨N105, K106, ⟨rfl, V105⟩⟩) _ (own_retV X105 hx hret (hb hby own_d12_43))
theorem own_d12_28 : decode jdk_42_method_147_code 28 = .ok (.aload_n 0, 1) := by decide +kernel
theorem own_d12_29 : decode jdk_42_method_147_code 29 = .ok (.getfield 9, 3) := by decide +kernel
theorem own_d12_32 : decode jdk_42_method_147_code 32 = .ok (.iconst 0, 1) := by decide +kernel
theorem own_d12_33 : decode jdk_42_method_147_code 33 = .ok (.aload_n 1, 1) := by decide +kernel
theorem own_d12_34 : decode jdk_42_method_147_code 34 = .ok (.iload_n 2, 1) := by decide +kernel
theorem own_d12_35 : decode jdk_42_method_147_code 35 = .ok (.aload_n 0, 1) := by decide +kernel
theorem own_d12_36 : decode jdk_42_method_147_code 36 = .ok (.getfield 9, 3) := by decide +kernel
theorem own_d12_39 : decode jdk_42_method_147_code 39 = .ok (.arraylength, 1) := by decide +kernel
theorem own_d12_40 : decode jdk_42_method_147_code 40 = .ok (.invokestatic 106, 3) := by decide +kernel
set_option maxHeartbeats 4000000 in
theorem own_ef_rmGbX (m : MethodId) (x0 : Addr) (x1 : Addr) (x2 : Int32) (x3 : Int32) : entryFrame m #[(.ref x0), (.ref x1), (.int x2), (.int x3)] 4 = mkF m 0 #[.val (.ref x0), .val (.ref x1), .val (.int x2), .val (.int x3)] [] := by rfl
set_option maxRecDepth 65536 in
set_option maxHeartbeats 40000000 in
theorem rmGbX (l : Launch) (Z : State) (a0 : Array Value) (hw : ∀ d ∈ tables_1, d.before a0 Z = true) (z0 : Int32) (fm0 : Value) (gl : own_Gl Z z0 fm0) (ws : List Jvm.Cond) (q : Addr) (t : Addr) (i : Int32) (kb : ClassId) (cs : List Int32) (to : Addr) (kq : ClassId) (ds : List Int32) (h0 : Heap) (n0 : Nat) (Z0 : n0 ≤ h0.size) (Xo : Old Z n0 h0) (At : Arv Z h0 t kb .byte (32 : Int32) (own_u cs) (.int (0 : Int32))) (Eq : Exa Z h0 q "java/lang/String") (Cq : Fld Z h0 q "java/lang/String" "coder" "B" (.int (0 : Int32))) (Vq : Fld Z h0 q "java/lang/String" "value" "[B" (.ref to)) (Aq : Arv Z h0 to kq .byte (own_n ds) (own_bs ds) (.int (0 : Int32))) (hi : i = (own_n cs)) (hz : cs.length + ds.length ≤ 16) (hqt : to ≠ t) (hb8 : own_b8 ds) (hbd : own_bd ds) (gz_t : n0 ≤ t) :
    own_MetN l Z (⟨"java/lang/String", "getBytes", "([BIB)V"⟩ : MethodName) jdk_42_method_147_code 4 none ws ({ frames := 5, cells := 0, slots := 0, locals := 76 } : Room) #[(.ref q), (.ref t), (.int i), (.int (1 : Int32))] h0 (fun v h L => Fr n0 L ∧ Keep h0 h [t] ∧ (((v = none) ∧ (Arv Z h t kb .byte (32 : Int32) (own_u (cs ++ ds)) (.int (0 : Int32)))))) := by
  refine own_metN (plainFor_of_name own_pn0) ?_
  intro p e s m below meth c s₁ G hx hby hml hZ hown hnm hret X0 e0 go fin
  obtain ⟨O2, P5, O4, R4, O_ad, O_hi, O_lo⟩ := id gl
  have N0 := Fr.nil n0
  refine go _ _ (fun _ k => castTop (own_ef_rmGbX m q t i (1 : Int32)) k) ?_
  show G (s₁.setTop (mkF m 0 #[r' q, r' t, i' i, i' 1] []))
  subst hi
  show G (s₁.setTop (mkF m 0 #[r' q, r' t, i' (own_n cs), i' 1] []))
  refine go _ _ (fun _ k => XS.aloadN X0.here hx rfl (hb hby own_d12_0) rfl rfl k) ?_
  obtain ⟨rv101, T101, L101, X101, q101, st101⟩ := own_vi X0 hx hZ (y := (⟨"java/lang/String", "coder", "()B"⟩ : MethodName)) (z := (⟨"java/lang/String", "coder", "()B"⟩ : MethodName)) hown (ow hw 52 rfl) (ow hw 53 rfl) (ow hw 55 rfl) (ow hw 54 rfl) (Or.inl rfl) (by decide) (own_bkN (W := 0) (rmCo0 l Z a0 hw z0 fm0 gl [] q h0 n0 Z0 Xo Cq) hZ (ow hw 56 rfl) (ow hw 5 rfl) (by decide) (by decide)) e0 Eq (g := (mkF m 1 #[r' q, r' t, i' (own_n cs), i' 1] [(.ref q)])) rfl (by rw [hml]; rfl) (argsL := []) (rest := []) rfl (lenOf own_pd9 rfl) rfl (by show 2 * 0 + _ ≤ _; exact Nat.le_of_eq rfl) (hb hby own_d12_1) (by decide) (by decide)
  obtain ⟨Nq101, e101, rfl⟩ := q101
  have N101 := Fr.app N0 Nq101
  refine go _ _ (st101) ?_
  show G (T101.setTop (mkF m 4 #[r' q, r' t, i' (own_n cs), i' 1] [(.int 0)]))
  refine go _ _ (fun _ k => XS.iloadN X101.here hx rfl (hb hby own_d12_4) rfl k) ?_
  show G (T101.setTop (mkF m 5 #[r' q, r' t, i' (own_n cs), i' 1] [(.int 1), (.int 0)]))
  refine go _ _ (fun _ k => XS.icmpYes X101.here hx rfl (pc0 := 5) (pc' := 28) rfl (hb hby own_d12_5) rfl (by decide) (by decide) (by decide) k) ?_
  show G (T101.setTop (mkF m 28 #[r' q, r' t, i' (own_n cs), i' 1] []))
  refine go _ _ (fun _ k => XS.aloadN X101.here hx rfl (hb hby own_d12_28) rfl rfl k) ?_
  obtain ⟨T102, X102, e102, st102⟩ := getF X101 hx hZ hown (host := "") (Or.inl (ow hw 51 rfl)) Via.refl e101 Vq (g := (mkF m 29 #[r' q, r' t, i' (own_n cs), i' 1] [(.ref q)])) rfl rfl (hb hby own_d12_29)
  refine go _ _ (st102) ?_
  show G (T102.setTop (mkF m 32 #[r' q, r' t, i' (own_n cs), i' 1] [(.ref to)]))
  refine go _ _ (fun _ k => XS.iconst X102.here hx rfl (hb hby own_d12_32) (XS.aloadN X102.here hx rfl (hb hby own_d12_33) rfl rfl (XS.iloadN X102.here hx rfl (hb hby own_d12_34) rfl (XS.aloadN X102.here hx rfl (hb hby own_d12_35) rfl rfl k)))) ?_
  obtain ⟨T103, X103, e103, st103⟩ := getF X102 hx hZ hown (host := "") (Or.inl (ow hw 51 rfl)) Via.refl e102 Vq (g := (mkF m 36 #[r' q, r' t, i' (own_n cs), i' 1] [(.ref q), (.int (own_n cs)), (.ref t), (.int 0), (.ref to)])) rfl rfl (hb hby own_d12_36)
  refine go _ _ (st103) ?_
  show G (T103.setTop (mkF m 39 #[r' q, r' t, i' (own_n cs), i' 1] [(.ref to), (.int (own_n cs)), (.ref t), (.int 0), (.ref to)]))
  obtain ⟨cl104, Ar104, q104, S104, M104, H104, U104⟩ := id Aq
  refine go _ _ (fun _ k => X103.arraylength hx (by rw [e103]; exact Ar104.1) (State.isArrayOf_alike hZ.alike Ar104.2.1) (g := (mkF m 39 #[r' q, r' t, i' (own_n cs), i' 1] [(.ref to), (.int (own_n cs)), (.ref t), (.int 0), (.ref to)])) rfl rfl (hb hby own_d12_39) _ k) ?_
  show G (T103.setTop (mkF m 40 #[r' q, r' t, i' (own_n cs), i' 1] [(.int cl104.slots.size.toInt32), (.int (own_n cs)), (.ref t), (.int 0), (.ref to)]))
  rw [len_of S104 M104]
  show G (T103.setTop (mkF m 40 #[r' q, r' t, i' (own_n cs), i' 1] [(.int (own_n ds)), (.int (own_n cs)), (.ref t), (.int 0), (.ref to)]))
  obtain ⟨rv105, T105, L105, X105, q105, st105⟩ := own_st X103 hx hZ (y := (⟨"java/lang/StringLatin1", "inflate", "([BI[BII)V"⟩ : MethodName)) hown (ow hw 254 rfl) (ow hw 230 rfl) (ow hw 102 rfl) (ow hw 231 rfl) (by decide) (own_bkN (W := 0) (rm48 l Z a0 hw z0 fm0 gl [] to t (own_n cs) (own_n ds) kq (own_n ds) kb cs ds h0 n0 Z0 Xo Aq At rfl rfl hb8 hbd hz (Nat.le_of_eq (own_nN (n := ds.length) (by omega)).1.symm) hqt gz_t) hZ (ow hw 231 rfl) (ow hw 102 rfl) (by decide) (by decide)) e103 (g := (mkF m 40 #[r' q, r' t, i' (own_n cs), i' 1] [(.int (own_n ds)), (.int (own_n cs)), (.ref t), (.int 0), (.ref to)])) rfl (by rw [hml]; rfl) (argsL := [(.ref to), (.int (0 : Int32)), (.ref t), (.int (own_n cs)), (.int (own_n ds))]) (rest := []) rfl (lenOf own_pd22 rfl) rfl (by show 2 * 0 + _ ≤ _; exact Nat.le_of_eq rfl) (hb hby own_d12_40) (by decide) (by decide)
  obtain ⟨Nq105, Kp105, ⟨rfl, f106⟩⟩ := q105
  have N105 := Fr.app N101 Nq105
  refine go _ _ (st105) ?_
  show G (T105.setTop (mkF m 43 #[r' q, r' t, i' (own_n cs), i' 1] []))
  have K107 : Keep h0 T105.heap [t] := (Keep.refl h0 [t]).trans Kp105 (allS (Or.inl (List.mem_of_getElem? (i := 0) rfl)) all0)
  refine fin T105 _ _ _ none X105 (fun _ => rfl) (by decide) (by decide) ⟨N105, K107, ⟨rfl, f106⟩⟩ _ (own_retV X105 hx hret (hb hby own_d12_43))
theorem own_d10_0 : decode jdk_68_method_73_code 0 = .ok (.aload_n 0, 1) := by decide +kernel
theorem own_d10_1 : decode jdk_68_method_73_code 1 = .ok (.aload_n 2, 1) := by decide +kernel
theorem own_pd24 : parseMethodDescriptor "(Ljava/lang/String;)V" = some ⟨[(.object "java/lang/String")], none⟩ := by decide +kernel
theorem own_d10_2 : decode jdk_68_method_73_code 2 = .ok (.invokevirtual 397, 3) := by decide +kernel
theorem own_d10_5 : decode jdk_68_method_73_code 5 = .ok (.aload_n 2, 1) := by decide +kernel
theorem own_d10_6 : decode jdk_68_method_73_code 6 = .ok (.aload_n 0, 1) := by decide +kernel
theorem own_d10_7 : decode jdk_68_method_73_code 7 = .ok (.getfield 15, 3) := by decide +kernel
theorem own_d10_10 : decode jdk_68_method_73_code 10 = .ok (.iload_n 1, 1) := by decide +kernel
theorem own_d10_11 : decode jdk_68_method_73_code 11 = .ok (.aload_n 0, 1) := by decide +kernel
theorem own_d10_12 : decode jdk_68_method_73_code 12 = .ok (.getfield 22, 3) := by decide +kernel
theorem own_pd25 : parseMethodDescriptor "([BIB)V" = some ⟨[(.array .byte), .int, .byte], none⟩ := by decide +kernel
theorem own_d10_15 : decode jdk_68_method_73_code 15 = .ok (.invokevirtual 399, 3) := by decide +kernel
theorem own_d10_18 : decode jdk_68_method_73_code 18 = .ok (.return_, 1) := by decide +kernel
set_option maxHeartbeats 4000000 in
theorem own_ef_rmPsLL (m : MethodId) (x0 : Addr) (x1 : Int32) (x2 : Addr) : entryFrame m #[(.ref x0), (.int x1), (.ref x2)] 3 = mkF m 0 #[.val (.ref x0), .val (.int x1), .val (.ref x2)] [] := by rfl
set_option maxRecDepth 65536 in
set_option maxHeartbeats 40000000 in
theorem rmPsLL (l : Launch) (Z : State) (a0 : Array Value) (hw : ∀ d ∈ tables_1, d.before a0 Z = true) (z0 : Int32) (fm0 : Value) (gl : own_Gl Z z0 fm0) (ws : List Jvm.Cond) (a : Addr) (i : Int32) (q : Addr) (t : Addr) (kb : ClassId) (cs : List Int32) (to : Addr) (kq : ClassId) (ds : List Int32) (h0 : Heap) (n0 : Nat) (Z0 : n0 ≤ h0.size) (Xo : Old Z n0 h0) (Ea : Exa Z h0 a "java/lang/StringBuilder") (Fv : Fld Z h0 a "java/lang/AbstractStringBuilder" "value" "[B" (.ref t)) (Fc : Fld Z h0 a "java/lang/AbstractStringBuilder" "coder" "B" (.int (0 : Int32))) (At : Arv Z h0 t kb .byte (16 : Int32) (own_bs cs) (.int (0 : Int32))) (Eq : Exa Z h0 q "java/lang/String") (Cq : Fld Z h0 q "java/lang/String" "coder" "B" (.int (0 : Int32))) (Vq : Fld Z h0 q "java/lang/String" "value" "[B" (.ref to)) (Aq : Arv Z h0 to kq .byte (own_n ds) (own_bs ds) (.int (0 : Int32))) (hi : i = (own_n cs)) (hz : cs.length + ds.length ≤ 16) (gz_t : n0 ≤ t) :
    own_MetN l Z (⟨"java/lang/AbstractStringBuilder", "putStringAt", "(ILjava/lang/String;)V"⟩ : MethodName) jdk_68_method_73_code 3 none ws ({ frames := 2, cells := 0, slots := 0, locals := 42 } : Room) #[(.ref a), (.int i), (.ref q)] h0 (fun v h L => Fr n0 L ∧ Keep h0 h [t] ∧ (((v = none) ∧ (Arv Z h t kb .byte (16 : Int32) (own_bs (cs ++ ds)) (.int (0 : Int32)))))) := by
  refine own_metN (plainFor_of_name own_pn1) ?_
  intro p e s m below meth c s₁ G hx hby hml hZ hown hnm hret X0 e0 go fin
  obtain ⟨O2, P5, O4, R4, O_ad, O_hi, O_lo⟩ := id gl
  have N0 := Fr.nil n0
  refine go _ _ (fun _ k => castTop (own_ef_rmPsLL m a i q) k) ?_
  show G (s₁.setTop (mkF m 0 #[r' a, i' i, r' q] []))
  subst hi
  show G (s₁.setTop (mkF m 0 #[r' a, i' (own_n cs), r' q] []))
  refine go _ _ (fun _ k => XS.aloadN X0.here hx rfl (hb hby own_d10_0) rfl rfl (XS.aloadN X0.here hx rfl (hb hby own_d10_1) rfl rfl k)) ?_
  obtain ⟨rv101, T101, L101, X101, q101, st101⟩ := own_pr X0 hx hZ (y := (⟨"java/lang/AbstractStringBuilder", "inflateIfNeededFor", "(Ljava/lang/String;)V"⟩ : MethodName)) hown (ow hw 71 rfl) (ow hw 72 rfl) (ow hw 74 rfl) (ow hw 73 rfl) (ow hw 75 rfl) (by decide) (own_bkN (W := 0) (rmInS0 l Z a0 hw z0 fm0 gl [] a q h0 n0 Z0 Xo Fc Eq Cq) hZ (ow hw 75 rfl) (ow hw 26 rfl) (by decide) (by decide)) e0 Ea (g := (mkF m 2 #[r' a, i' (own_n cs), r' q] [(.ref q), (.ref a)])) rfl (by rw [hml]; rfl) (argsL := [(.ref q)]) (rest := []) rfl (lenOf own_pd24 rfl) rfl (by show 2 * 0 + _ ≤ _; exact Nat.le_of_eq rfl) (hb hby own_d10_2) (by decide) (by decide)
  obtain ⟨Nq101, e101, rfl⟩ := q101
  have N101 := Fr.app N0 Nq101
  refine go _ _ (st101) ?_
  show G (T101.setTop (mkF m 5 #[r' a, i' (own_n cs), r' q] []))
  refine go _ _ (fun _ k => XS.aloadN X101.here hx rfl (hb hby own_d10_5) rfl rfl (XS.aloadN X101.here hx rfl (hb hby own_d10_6) rfl rfl k)) ?_
  obtain ⟨T102, X102, e102, st102⟩ := getF X101 hx hZ hown (host := "") (Or.inl (ow hw 32 rfl)) Via.refl e101 Fv (g := (mkF m 7 #[r' a, i' (own_n cs), r' q] [(.ref a), (.ref q)])) rfl rfl (hb hby own_d10_7)
  refine go _ _ (st102) ?_
  show G (T102.setTop (mkF m 10 #[r' a, i' (own_n cs), r' q] [(.ref t), (.ref q)]))
  refine go _ _ (fun _ k => XS.iloadN X102.here hx rfl (hb hby own_d10_10) rfl (XS.aloadN X102.here hx rfl (hb hby own_d10_11) rfl rfl k)) ?_
  obtain ⟨T103, X103, e103, st103⟩ := getF X102 hx hZ hown (host := "") (Or.inl (ow hw 34 rfl)) Via.refl e102 Fc (g := (mkF m 12 #[r' a, i' (own_n cs), r' q] [(.ref a), (.int (own_n cs)), (.ref t), (.ref q)])) rfl rfl (hb hby own_d10_12)
  refine go _ _ (st103) ?_
  obtain ⟨rv104, T104, L104, X104, q104, st104⟩ := own_vi X103 hx hZ (y := (⟨"java/lang/String", "getBytes", "([BIB)V"⟩ : MethodName)) (z := (⟨"java/lang/String", "getBytes", "([BIB)V"⟩ : MethodName)) hown (ow hw 77 rfl) (ow hw 78 rfl) (ow hw 80 rfl) (ow hw 79 rfl) (Or.inl rfl) (by decide) (own_bkN (W := 0) (rmGbL l Z a0 hw z0 fm0 gl [] q t (own_n cs) kb cs to kq ds h0 n0 Z0 Xo At Eq Cq Vq Aq rfl hz gz_t) hZ (ow hw 81 rfl) (ow hw 5 rfl) (by decide) (by decide)) e103 Eq (g := (mkF m 15 #[r' a, i' (own_n cs), r' q] [(.int 0), (.int (own_n cs)), (.ref t), (.ref q)])) rfl (by rw [hml]; rfl) (argsL := [(.ref t), (.int (own_n cs)), (.int (0 : Int32))]) (rest := []) rfl (lenOf own_pd25 rfl) rfl (by show 2 * 0 + _ ≤ _; exact Nat.le_of_eq rfl) (hb hby own_d10_15) (by decide) (by decide)
  obtain ⟨Nq104, Kp104, ⟨rfl, f105⟩⟩ := q104
  have N104 := Fr.app N101 Nq104
  refine go _ _ (st104) ?_
  show G (T104.setTop (mkF m 18 #[r' a, i' (own_n cs), r' q] []))
  have K106 : Keep h0 T104.heap [t] := (Keep.refl h0 [t]).trans Kp104 (allS (Or.inl (List.mem_of_getElem? (i := 0) rfl)) all0)
  refine fin T104 _ _ _ none X104 (fun _ => rfl) (by decide) (by decide) ⟨N104, K106, ⟨rfl, f105⟩⟩ _ (own_retV X104 hx hret (hb hby own_d10_18))
set_option maxHeartbeats 4000000 in
theorem own_ef_rmPsWW (m : MethodId) (x0 : Addr) (x1 : Int32) (x2 : Addr) : entryFrame m #[(.ref x0), (.int x1), (.ref x2)] 3 = mkF m 0 #[.val (.ref x0), .val (.int x1), .val (.ref x2)] [] := by rfl
set_option maxRecDepth 65536 in
set_option maxHeartbeats 40000000 in
theorem rmPsWW (l : Launch) (Z : State) (a0 : Array Value) (hw : ∀ d ∈ tables_1, d.before a0 Z = true) (z0 : Int32) (fm0 : Value) (gl : own_Gl Z z0 fm0) (ws : List Jvm.Cond) (a : Addr) (i : Int32) (q : Addr) (t : Addr) (kb : ClassId) (cs : List Int32) (to : Addr) (kq : ClassId) (ds : List Int32) (h0 : Heap) (n0 : Nat) (Z0 : n0 ≤ h0.size) (Xo : Old Z n0 h0) (Ea : Exa Z h0 a "java/lang/StringBuilder") (Fv : Fld Z h0 a "java/lang/AbstractStringBuilder" "value" "[B" (.ref t)) (Fc : Fld Z h0 a "java/lang/AbstractStringBuilder" "coder" "B" (.int (1 : Int32))) (At : Arv Z h0 t kb .byte (32 : Int32) (own_u cs) (.int (0 : Int32))) (Eq : Exa Z h0 q "java/lang/String") (Cq : Fld Z h0 q "java/lang/String" "coder" "B" (.int (1 : Int32))) (Vq : Fld Z h0 q "java/lang/String" "value" "[B" (.ref to)) (Aq : Arv Z h0 to kq .byte (own_n2 ds) (own_u ds) (.int (0 : Int32))) (hi : i = (own_n cs)) (hz : cs.length + ds.length ≤ 16) (gz_t : n0 ≤ t) :
    own_MetN l Z (⟨"java/lang/AbstractStringBuilder", "putStringAt", "(ILjava/lang/String;)V"⟩ : MethodName) jdk_68_method_73_code 3 none ws ({ frames := 2, cells := 0, slots := 0, locals := 42 } : Room) #[(.ref a), (.int i), (.ref q)] h0 (fun v h L => Fr n0 L ∧ Keep h0 h [t] ∧ (((v = none) ∧ (Arv Z h t kb .byte (32 : Int32) (own_u (cs ++ ds)) (.int (0 : Int32)))))) := by
  refine own_metN (plainFor_of_name own_pn1) ?_
  intro p e s m below meth c s₁ G hx hby hml hZ hown hnm hret X0 e0 go fin
  obtain ⟨O2, P5, O4, R4, O_ad, O_hi, O_lo⟩ := id gl
  have N0 := Fr.nil n0
  refine go _ _ (fun _ k => castTop (own_ef_rmPsWW m a i q) k) ?_
  show G (s₁.setTop (mkF m 0 #[r' a, i' i, r' q] []))
  subst hi
  show G (s₁.setTop (mkF m 0 #[r' a, i' (own_n cs), r' q] []))
  refine go _ _ (fun _ k => XS.aloadN X0.here hx rfl (hb hby own_d10_0) rfl rfl (XS.aloadN X0.here hx rfl (hb hby own_d10_1) rfl rfl k)) ?_
  obtain ⟨rv101, T101, L101, X101, q101, st101⟩ := own_pr X0 hx hZ (y := (⟨"java/lang/AbstractStringBuilder", "inflateIfNeededFor", "(Ljava/lang/String;)V"⟩ : MethodName)) hown (ow hw 71 rfl) (ow hw 72 rfl) (ow hw 74 rfl) (ow hw 73 rfl) (ow hw 75 rfl) (by decide) (own_bkN (W := 0) (rmInS1 l Z a0 hw z0 fm0 gl [] a q h0 n0 Z0 Xo Fc Eq Cq) hZ (ow hw 75 rfl) (ow hw 26 rfl) (by decide) (by decide)) e0 Ea (g := (mkF m 2 #[r' a, i' (own_n cs), r' q] [(.ref q), (.ref a)])) rfl (by rw [hml]; rfl) (argsL := [(.ref q)]) (rest := []) rfl (lenOf own_pd24 rfl) rfl (by show 2 * 0 + _ ≤ _; exact Nat.le_of_eq rfl) (hb hby own_d10_2) (by decide) (by decide)
  obtain ⟨Nq101, e101, rfl⟩ := q101
  have N101 := Fr.app N0 Nq101
  refine go _ _ (st101) ?_
  show G (T101.setTop (mkF m 5 #[r' a, i' (own_n cs), r' q] []))
  refine go _ _ (fun _ k => XS.aloadN X101.here hx rfl (hb hby own_d10_5) rfl rfl (XS.aloadN X101.here hx rfl (hb hby own_d10_6) rfl rfl k)) ?_
  obtain ⟨T102, X102, e102, st102⟩ := getF X101 hx hZ hown (host := "") (Or.inl (ow hw 32 rfl)) Via.refl e101 Fv (g := (mkF m 7 #[r' a, i' (own_n cs), r' q] [(.ref a), (.ref q)])) rfl rfl (hb hby own_d10_7)
  refine go _ _ (st102) ?_
  show G (T102.setTop (mkF m 10 #[r' a, i' (own_n cs), r' q] [(.ref t), (.ref q)]))
  refine go _ _ (fun _ k => XS.iloadN X102.here hx rfl (hb hby own_d10_10) rfl (XS.aloadN X102.here hx rfl (hb hby own_d10_11) rfl rfl k)) ?_
  obtain ⟨T103, X103, e103, st103⟩ := getF X102 hx hZ hown (host := "") (Or.inl (ow hw 34 rfl)) Via.refl e102 Fc (g := (mkF m 12 #[r' a, i' (own_n cs), r' q] [(.ref a), (.int (own_n cs)), (.ref t), (.ref q)])) rfl rfl (hb hby own_d10_12)
  refine go _ _ (st103) ?_
  obtain ⟨rv104, T104, L104, X104, q104, st104⟩ := own_vi X103 hx hZ (y := (⟨"java/lang/String", "getBytes", "([BIB)V"⟩ : MethodName)) (z := (⟨"java/lang/String", "getBytes", "([BIB)V"⟩ : MethodName)) hown (ow hw 77 rfl) (ow hw 78 rfl) (ow hw 80 rfl) (ow hw 79 rfl) (Or.inl rfl) (by decide) (own_bkN (W := 0) (rmGbW l Z a0 hw z0 fm0 gl [] q t (own_n cs) kb cs to kq ds h0 n0 Z0 Xo At Eq Cq Vq Aq rfl hz gz_t) hZ (ow hw 81 rfl) (ow hw 5 rfl) (by decide) (by decide)) e103 Eq (g := (mkF m 15 #[r' a, i' (own_n cs), r' q] [(.int 1), (.int (own_n cs)), (.ref t), (.ref q)])) rfl (by rw [hml]; rfl) (argsL := [(.ref t), (.int (own_n cs)), (.int (1 : Int32))]) (rest := []) rfl (lenOf own_pd25 rfl) rfl (by show 2 * 0 + _ ≤ _; exact Nat.le_of_eq rfl) (hb hby own_d10_15) (by decide) (by decide)
  obtain ⟨Nq104, Kp104, ⟨rfl, f105⟩⟩ := q104
  have N104 := Fr.app N101 Nq104
  refine go _ _ (st104) ?_
  show G (T104.setTop (mkF m 18 #[r' a, i' (own_n cs), r' q] []))
  have K106 : Keep h0 T104.heap [t] := (Keep.refl h0 [t]).trans Kp104 (allS (Or.inl (List.mem_of_getElem? (i := 0) rfl)) all0)
  refine fin T104 _ _ _ none X104 (fun _ => rfl) (by decide) (by decide) ⟨N104, K106, ⟨rfl, f105⟩⟩ _ (own_retV X104 hx hret (hb hby own_d10_18))
set_option maxHeartbeats 4000000 in
theorem own_ef_rmPsWL (m : MethodId) (x0 : Addr) (x1 : Int32) (x2 : Addr) : entryFrame m #[(.ref x0), (.int x1), (.ref x2)] 3 = mkF m 0 #[.val (.ref x0), .val (.int x1), .val (.ref x2)] [] := by rfl
set_option maxRecDepth 65536 in
set_option maxHeartbeats 40000000 in
theorem rmPsWL (l : Launch) (Z : State) (a0 : Array Value) (hw : ∀ d ∈ tables_1, d.before a0 Z = true) (z0 : Int32) (fm0 : Value) (gl : own_Gl Z z0 fm0) (ws : List Jvm.Cond) (a : Addr) (i : Int32) (q : Addr) (t : Addr) (kb : ClassId) (cs : List Int32) (to : Addr) (kq : ClassId) (ds : List Int32) (h0 : Heap) (n0 : Nat) (Z0 : n0 ≤ h0.size) (Xo : Old Z n0 h0) (Ea : Exa Z h0 a "java/lang/StringBuilder") (Fv : Fld Z h0 a "java/lang/AbstractStringBuilder" "value" "[B" (.ref t)) (Fc : Fld Z h0 a "java/lang/AbstractStringBuilder" "coder" "B" (.int (1 : Int32))) (At : Arv Z h0 t kb .byte (32 : Int32) (own_u cs) (.int (0 : Int32))) (Eq : Exa Z h0 q "java/lang/String") (Cq : Fld Z h0 q "java/lang/String" "coder" "B" (.int (0 : Int32))) (Vq : Fld Z h0 q "java/lang/String" "value" "[B" (.ref to)) (Aq : Arv Z h0 to kq .byte (own_n ds) (own_bs ds) (.int (0 : Int32))) (hi : i = (own_n cs)) (hz : cs.length + ds.length ≤ 16) (hqt : to ≠ t) (hb8 : own_b8 ds) (hbd : own_bd ds) (gz_t : n0 ≤ t) :
    own_MetN l Z (⟨"java/lang/AbstractStringBuilder", "putStringAt", "(ILjava/lang/String;)V"⟩ : MethodName) jdk_68_method_73_code 3 none ws ({ frames := 6, cells := 0, slots := 0, locals := 91 } : Room) #[(.ref a), (.int i), (.ref q)] h0 (fun v h L => Fr n0 L ∧ Keep h0 h [t] ∧ (((v = none) ∧ (Arv Z h t kb .byte (32 : Int32) (own_u (cs ++ ds)) (.int (0 : Int32)))))) := by
  refine own_metN (plainFor_of_name own_pn1) ?_
  intro p e s m below meth c s₁ G hx hby hml hZ hown hnm hret X0 e0 go fin
  obtain ⟨O2, P5, O4, R4, O_ad, O_hi, O_lo⟩ := id gl
  have N0 := Fr.nil n0
  refine go _ _ (fun _ k => castTop (own_ef_rmPsWL m a i q) k) ?_
  show G (s₁.setTop (mkF m 0 #[r' a, i' i, r' q] []))
  subst hi
  show G (s₁.setTop (mkF m 0 #[r' a, i' (own_n cs), r' q] []))
  refine go _ _ (fun _ k => XS.aloadN X0.here hx rfl (hb hby own_d10_0) rfl rfl (XS.aloadN X0.here hx rfl (hb hby own_d10_1) rfl rfl k)) ?_
  obtain ⟨rv101, T101, L101, X101, q101, st101⟩ := own_pr X0 hx hZ (y := (⟨"java/lang/AbstractStringBuilder", "inflateIfNeededFor", "(Ljava/lang/String;)V"⟩ : MethodName)) hown (ow hw 71 rfl) (ow hw 72 rfl) (ow hw 74 rfl) (ow hw 73 rfl) (ow hw 75 rfl) (by decide) (own_bkN (W := 0) (rmInWL l Z a0 hw z0 fm0 gl [] a q h0 n0 Z0 Xo Ea Fc Eq Cq) hZ (ow hw 75 rfl) (ow hw 26 rfl) (by decide) (by decide)) e0 Ea (g := (mkF m 2 #[r' a, i' (own_n cs), r' q] [(.ref q), (.ref a)])) rfl (by rw [hml]; rfl) (argsL := [(.ref q)]) (rest := []) rfl (lenOf own_pd24 rfl) rfl (by show 2 * 0 + _ ≤ _; exact Nat.le_of_eq rfl) (hb hby own_d10_2) (by decide) (by decide)
  obtain ⟨Nq101, e101, rfl⟩ := q101
  have N101 := Fr.app N0 Nq101
  refine go _ _ (st101) ?_
  show G (T101.setTop (mkF m 5 #[r' a, i' (own_n cs), r' q] []))
  refine go _ _ (fun _ k => XS.aloadN X101.here hx rfl (hb hby own_d10_5) rfl rfl (XS.aloadN X101.here hx rfl (hb hby own_d10_6) rfl rfl k)) ?_
  obtain ⟨T102, X102, e102, st102⟩ := getF X101 hx hZ hown (host := "") (Or.inl (ow hw 32 rfl)) Via.refl e101 Fv (g := (mkF m 7 #[r' a, i' (own_n cs), r' q] [(.ref a), (.ref q)])) rfl rfl (hb hby own_d10_7)
  refine go _ _ (st102) ?_
  show G (T102.setTop (mkF m 10 #[r' a, i' (own_n cs), r' q] [(.ref t), (.ref q)]))
  refine go _ _ (fun _ k => XS.iloadN X102.here hx rfl (hb hby own_d10_10) rfl (XS.aloadN X102.here hx rfl (hb hby own_d10_11) rfl rfl k)) ?_
  obtain ⟨T103, X103, e103, st103⟩ := getF X102 hx hZ hown (host := "") (Or.inl (ow hw 34 rfl)) Via.refl e102 Fc (g := (mkF m 12 #[r' a, i' (own_n cs), r' q] [(.ref a), (.int (own_n cs)), (.ref t), (.ref q)])) rfl rfl (hb hby own_d10_12)
  refine go _ _ (st103) ?_
  obtain ⟨rv104, T104, L104, X104, q104, st104⟩ := own_vi X103 hx hZ (y := (⟨"java/lang/String", "getBytes", "([BIB)V"⟩ : MethodName)) (z := (⟨"java/lang/String", "getBytes", "([BIB)V"⟩ : MethodName)) hown (ow hw 77 rfl) (ow hw 78 rfl) (ow hw 80 rfl) (ow hw 79 rfl) (Or.inl rfl) (by decide) (own_bkN (W := 0) (rmGbX l Z a0 hw z0 fm0 gl [] q t (own_n cs) kb cs to kq ds h0 n0 Z0 Xo At Eq Cq Vq Aq rfl hz hqt hb8 hbd gz_t) hZ (ow hw 81 rfl) (ow hw 5 rfl) (by decide) (by decide)) e103 Eq (g := (mkF m 15 #[r' a, i' (own_n cs), r' q] [(.int 1), (.int (own_n cs)), (.ref t), (.ref q)])) rfl (by rw [hml]; rfl) (argsL := [(.ref t), (.int (own_n cs)), (.int (1 : Int32))]) (rest := []) rfl (lenOf own_pd25 rfl) rfl (by show 2 * 0 + _ ≤ _; exact Nat.le_of_eq rfl) (hb hby own_d10_15) (by decide) (by decide)
  obtain ⟨Nq104, Kp104, ⟨rfl, f105⟩⟩ := q104
  have N104 := Fr.app N101 Nq104
  refine go _ _ (st104) ?_
  show G (T104.setTop (mkF m 18 #[r' a, i' (own_n cs), r' q] []))
  have K106 : Keep h0 T104.heap [t] := (Keep.refl h0 [t]).trans Kp104 (allS (Or.inl (List.mem_of_getElem? (i := 0) rfl)) all0)
  refine fin T104 _ _ _ none X104 (fun _ => rfl) (by decide) (by decide) ⟨N104, K106, ⟨rfl, f105⟩⟩ _ (own_retV X104 hx hret (hb hby own_d10_18))
set_option maxHeartbeats 4000000 in
theorem own_ef_rmPsLW (m : MethodId) (x0 : Addr) (x1 : Int32) (x2 : Addr) : entryFrame m #[(.ref x0), (.int x1), (.ref x2)] 3 = mkF m 0 #[.val (.ref x0), .val (.int x1), .val (.ref x2)] [] := by rfl
set_option maxRecDepth 65536 in
set_option maxHeartbeats 40000000 in
theorem rmPsLW (l : Launch) (Z : State) (a0 : Array Value) (hw : ∀ d ∈ tables_1, d.before a0 Z = true) (z0 : Int32) (fm0 : Value) (gl : own_Gl Z z0 fm0) (ws : List Jvm.Cond) (a : Addr) (i : Int32) (q : Addr) (t : Addr) (kb : ClassId) (cs : List Int32) (to : Addr) (kq : ClassId) (ds : List Int32) (h0 : Heap) (n0 : Nat) (Z0 : n0 ≤ h0.size) (Xo : Old Z n0 h0) (Ea : Exa Z h0 a "java/lang/StringBuilder") (Fv : Fld Z h0 a "java/lang/AbstractStringBuilder" "value" "[B" (.ref t)) (Fc : Fld Z h0 a "java/lang/AbstractStringBuilder" "coder" "B" (.int (0 : Int32))) (Fn : Fld Z h0 a "java/lang/AbstractStringBuilder" "count" "I" (.int (own_n cs))) (Fm : Fld Z h0 a "java/lang/AbstractStringBuilder" "maybeLatin1" "Z" (.int (0 : Int32))) (At : Arv Z h0 t kb .byte (16 : Int32) (own_bs cs) (.int (0 : Int32))) (hb8c : own_b8 cs) (hbdc : own_bd cs) (hlc : cs.length ≤ 16) (Eq : Exa Z h0 q "java/lang/String") (Cq : Fld Z h0 q "java/lang/String" "coder" "B" (.int (1 : Int32))) (Vq : Fld Z h0 q "java/lang/String" "value" "[B" (.ref to)) (Aq : Arv Z h0 to kq .byte (own_n2 ds) (own_u ds) (.int (0 : Int32))) (hi : i = (own_n cs)) (hz : cs.length + ds.length ≤ 16) (gz_a : n0 ≤ a) :
    own_MetN l Z (⟨"java/lang/AbstractStringBuilder", "putStringAt", "(ILjava/lang/String;)V"⟩ : MethodName) jdk_68_method_73_code 3 none ws ({ frames := 7, cells := 1, slots := 32, locals := 102 } : Room) #[(.ref a), (.int i), (.ref q)] h0 (fun v h L => Fr n0 L ∧ Keep h0 h [a] ∧ ((∃ (t2 : Addr) (kb2 : ClassId), (v = none) ∧ (h0.size ≤ t2) ∧ (Exa Z h a "java/lang/StringBuilder") ∧ (Fld Z h a "java/lang/AbstractStringBuilder" "value" "[B" (.ref t2)) ∧ (Fld Z h a "java/lang/AbstractStringBuilder" "coder" "B" (.int (1 : Int32))) ∧ (Fld Z h a "java/lang/AbstractStringBuilder" "count" "I" (.int (own_n cs))) ∧ (Fld Z h a "java/lang/AbstractStringBuilder" "maybeLatin1" "Z" (.int (0 : Int32))) ∧ (Arv Z h t2 kb2 .byte (32 : Int32) (own_u (cs ++ ds)) (.int (0 : Int32)))))) := by
  refine own_metN (plainFor_of_name own_pn1) ?_
  intro p e s m below meth c s₁ G hx hby hml hZ hown hnm hret X0 e0 go fin
  obtain ⟨O2, P5, O4, R4, O_ad, O_hi, O_lo⟩ := id gl
  have N0 := Fr.nil n0
  refine go _ _ (fun _ k => castTop (own_ef_rmPsLW m a i q) k) ?_
  show G (s₁.setTop (mkF m 0 #[r' a, i' i, r' q] []))
  subst hi
  show G (s₁.setTop (mkF m 0 #[r' a, i' (own_n cs), r' q] []))
  refine go _ _ (fun _ k => XS.aloadN X0.here hx rfl (hb hby own_d10_0) rfl rfl (XS.aloadN X0.here hx rfl (hb hby own_d10_1) rfl rfl k)) ?_
  obtain ⟨rv101, T101, L101, X101, q101, st101⟩ := own_pr X0 hx hZ (y := (⟨"java/lang/AbstractStringBuilder", "inflateIfNeededFor", "(Ljava/lang/String;)V"⟩ : MethodName)) hown (ow hw 71 rfl) (ow hw 72 rfl) (ow hw 74 rfl) (ow hw 73 rfl) (ow hw 75 rfl) (by decide) (own_bkN (W := 0) (rmInLW l Z a0 hw z0 fm0 gl [] a q t kb cs h0 n0 Z0 Xo Ea Fv Fc Fn Fm At hb8c hbdc hlc Eq Cq gz_a) hZ (ow hw 75 rfl) (ow hw 26 rfl) (by decide) (by decide)) e0 Ea (g := (mkF m 2 #[r' a, i' (own_n cs), r' q] [(.ref q), (.ref a)])) rfl (by rw [hml]; rfl) (argsL := [(.ref q)]) (rest := []) rfl (lenOf own_pd24 rfl) rfl (by show 2 * 0 + _ ≤ _; exact Nat.le_of_eq rfl) (hb hby own_d10_2) (by decide) (by decide)
  obtain ⟨Nq101, Kp101, ⟨t2_102, kb2_103, rfl, z104, f105, f106, f107, f108, f109, f110⟩⟩ := q101
  have N101 := Fr.app N0 Nq101
  refine go _ _ (st101) ?_
  show G (T101.setTop (mkF m 5 #[r' a, i' (own_n cs), r' q] []))
  refine go _ _ (fun _ k => XS.aloadN X101.here hx rfl (hb hby own_d10_5) rfl rfl (XS.aloadN X101.here hx rfl (hb hby own_d10_6) rfl rfl k)) ?_
  obtain ⟨T111, X111, e111, st111⟩ := getF X101 hx hZ hown (host := "") (Or.inl (ow hw 32 rfl)) Via.refl rfl f106 (g := (mkF m 7 #[r' a, i' (own_n cs), r' q] [(.ref a), (.ref q)])) rfl rfl (hb hby own_d10_7)
  refine go _ _ (st111) ?_
  show G (T111.setTop (mkF m 10 #[r' a, i' (own_n cs), r' q] [(.ref t2_102), (.ref q)]))
  refine go _ _ (fun _ k => XS.iloadN X111.here hx rfl (hb hby own_d10_10) rfl (XS.aloadN X111.here hx rfl (hb hby own_d10_11) rfl rfl k)) ?_
  obtain ⟨T112, X112, e112, st112⟩ := getF X111 hx hZ hown (host := "") (Or.inl (ow hw 34 rfl)) Via.refl e111 f107 (g := (mkF m 12 #[r' a, i' (own_n cs), r' q] [(.ref a), (.int (own_n cs)), (.ref t2_102), (.ref q)])) rfl rfl (hb hby own_d10_12)
  refine go _ _ (st112) ?_
  have K114 : Keep h0 T101.heap [a] := (Keep.refl h0 [a]).trans Kp101 (allS (Or.inl (List.mem_of_getElem? (i := 0) rfl)) all0)
  have F115 : Old Z n0 T101.heap := (Xo.keep K114 (allS gz_a all0))
  have F116 : Exa Z T101.heap q "java/lang/String" := (Eq.keep K114)
  have ne117 : q ≠ a := Exa.ne F116 f105 (by decide)
  have F118 : Fld Z T101.heap q "java/lang/String" "coder" "B" (.int (1 : Int32)) := (Cq.keep K114 (ninS ne117 nin0))
  have F119 : Fld Z T101.heap q "java/lang/String" "value" "[B" (.ref to) := (Vq.keep K114 (ninS ne117 nin0))
  have ne120 : to ≠ a := Ne.symm (Exa.neArv Ea Aq (ow hw 17 rfl))
  have F121 : Arv Z T101.heap to kq .byte (own_n2 ds) (own_u ds) (.int (0 : Int32)) := (Aq.keep K114 (ninS ne120 nin0))
  have Z122 : h0.size ≤ T101.heap.size := Kp101.1
  obtain ⟨rv113, T113, L113, X113, q113, st113⟩ := own_vi X112 hx hZ (y := (⟨"java/lang/String", "getBytes", "([BIB)V"⟩ : MethodName)) (z := (⟨"java/lang/String", "getBytes", "([BIB)V"⟩ : MethodName)) hown (ow hw 77 rfl) (ow hw 78 rfl) (ow hw 80 rfl) (ow hw 79 rfl) (Or.inl rfl) (by decide) (own_bkN (W := 0) (rmGbW l Z a0 hw z0 fm0 gl [] q t2_102 (own_n cs) kb2_103 cs to kq ds T101.heap n0 (Nat.le_trans Z0 Z122) F115 f110 F116 F118 F119 F121 rfl hz (Nat.le_trans Z0 z104)) hZ (ow hw 81 rfl) (ow hw 5 rfl) (by decide) (by decide)) e112 F116 (g := (mkF m 15 #[r' a, i' (own_n cs), r' q] [(.int 1), (.int (own_n cs)), (.ref t2_102), (.ref q)])) rfl (by rw [hml]; rfl) (argsL := [(.ref t2_102), (.int (own_n cs)), (.int (1 : Int32))]) (rest := []) rfl (lenOf own_pd25 rfl) rfl (by show 2 * 0 + _ ≤ _; exact Nat.le_of_eq rfl) (hb hby own_d10_15) (by decide) (by decide)
  obtain ⟨Nq113, Kp113, ⟨rfl, f123⟩⟩ := q113
  have N113 := Fr.app N101 Nq113
  refine go _ _ (st113) ?_
  show G (T113.setTop (mkF m 18 #[r' a, i' (own_n cs), r' q] []))
  have K124 : Keep h0 T113.heap [a] := K114.trans Kp113 (allS (Or.inr z104) all0)
  have K125 : Keep T101.heap T113.heap [t2_102] := (Keep.refl T101.heap [t2_102]).trans Kp113 (allS (Or.inl (List.mem_of_getElem? (i := 0) rfl)) all0)
  have F126 : Exa Z T113.heap a "java/lang/StringBuilder" := (f105.keep K125)
  have F127 : Fld Z T113.heap a "java/lang/AbstractStringBuilder" "value" "[B" (.ref t2_102) := (f106.keep K125 (ninS (Nat.ne_of_lt (Nat.lt_of_lt_of_le Ea.lt z104)) nin0))
  have F128 : Fld Z T113.heap a "java/lang/AbstractStringBuilder" "coder" "B" (.int (1 : Int32)) := (f107.keep K125 (ninS (Nat.ne_of_lt (Nat.lt_of_lt_of_le Ea.lt z104)) nin0))
  have F129 : Fld Z T113.heap a "java/lang/AbstractStringBuilder" "count" "I" (.int (own_n cs)) := (f108.keep K125 (ninS (Nat.ne_of_lt (Nat.lt_of_lt_of_le Ea.lt z104)) nin0))
  have F130 : Fld Z T113.heap a "java/lang/AbstractStringBuilder" "maybeLatin1" "Z" (.int (0 : Int32)) := (f109.keep K125 (ninS (Nat.ne_of_lt (Nat.lt_of_lt_of_le Ea.lt z104)) nin0))
  refine fin T113 _ _ _ none X113 (fun _ => rfl) (by decide) (by decide) ⟨N113, K124, ⟨t2_102, kb2_103, rfl, z104, F126, F127, F128, F129, F130, f123⟩⟩ _ (own_retV X113 hx hret (hb hby own_d10_18))
theorem own_d9_0 : decode jdk_68_method_9_code 0 = .ok (.aload_n 0, 1) := by decide +kernel
theorem own_d9_1 : decode jdk_68_method_9_code 1 = .ok (.getfield 15, 3) := by decide +kernel
theorem own_d9_4 : decode jdk_68_method_9_code 4 = .ok (.arraylength, 1) := by decide +kernel
theorem own_d9_5 : decode jdk_68_method_9_code 5 = .ok (.aload_n 0, 1) := by decide +kernel
theorem own_d9_6 : decode jdk_68_method_9_code 6 = .ok (.getfield 22, 3) := by decide +kernel
theorem own_d9_9 : decode jdk_68_method_9_code 9 = .ok (.ishr, 1) := by decide +kernel
theorem own_d9_10 : decode jdk_68_method_9_code 10 = .ok (.istore_n 2, 1) := by decide +kernel
theorem own_d9_11 : decode jdk_68_method_9_code 11 = .ok (.iload_n 1, 1) := by decide +kernel
theorem own_d9_12 : decode jdk_68_method_9_code 12 = .ok (.iload_n 2, 1) := by decide +kernel
theorem own_d9_13 : decode jdk_68_method_9_code 13 = .ok (.isub, 1) := by decide +kernel
theorem own_d9_14 : decode jdk_68_method_9_code 14 = .ok (.ifCond .le 24, 3) := by decide +kernel
theorem own_d9_38 : decode jdk_68_method_9_code 38 = .ok (.return_, 1) := by decide +kernel
set_option maxHeartbeats 4000000 in
theorem own_ef_rmEc0 (m : MethodId) (x0 : Addr) (x1 : Int32) : entryFrame m #[(.ref x0), (.int x1)] 3 = mkF m 0 #[.val (.ref x0), .val (.int x1), .unset] [] := by rfl
set_option maxRecDepth 65536 in
set_option maxHeartbeats 40000000 in
theorem rmEc0 (l : Launch) (Z : State) (a0 : Array Value) (hw : ∀ d ∈ tables_1, d.before a0 Z = true) (z0 : Int32) (fm0 : Value) (gl : own_Gl Z z0 fm0) (ws : List Jvm.Cond) (a : Addr) (mn : Int32) (t : Addr) (kb : ClassId) (vs : List Value) (h0 : Heap) (n0 : Nat) (Z0 : n0 ≤ h0.size) (Fv : Fld Z h0 a "java/lang/AbstractStringBuilder" "value" "[B" (.ref t)) (Fc : Fld Z h0 a "java/lang/AbstractStringBuilder" "coder" "B" (.int (0 : Int32))) (At : Arv Z h0 t kb .byte (16 : Int32) vs (.int (0 : Int32))) (hm : ¬ (0 : Int32) < (mn - (16 : Int32))) :
    own_MetN l Z (⟨"java/lang/AbstractStringBuilder", "ensureCapacityInternal", "(I)V"⟩ : MethodName) jdk_68_method_9_code 3 none ws ({ frames := 0, cells := 0, slots := 0, locals := 0 } : Room) #[(.ref a), (.int mn)] h0 (fun v h L => Fr n0 L ∧ h = h0 ∧ (((v = none)))) := by
  refine own_metN (plainFor_of_name own_pn1) ?_
  intro p e s m below meth c s₁ G hx hby hml hZ hown hnm hret X0 e0 go fin
  obtain ⟨O2, P5, O4, R4, O_ad, O_hi, O_lo⟩ := id gl
  have N0 := Fr.nil n0
  refine go _ _ (fun _ k => castTop (own_ef_rmEc0 m a mn) k) ?_
  show G (s₁.setTop (mkF m 0 #[r' a, i' mn, u'] []))
  refine go _ _ (fun _ k => XS.aloadN X0.here hx rfl (hb hby own_d9_0) rfl rfl k) ?_
  obtain ⟨T101, X101, e101, st101⟩ := getF X0 hx hZ hown (host := "") (Or.inl (ow hw 32 rfl)) Via.refl e0 Fv (g := (mkF m 1 #[r' a, i' mn, u'] [(.ref a)])) rfl rfl (hb hby own_d9_1)
  refine go _ _ (st101) ?_
  show G (T101.setTop (mkF m 4 #[r' a, i' mn, u'] [(.ref t)]))
  obtain ⟨cl102, Ar102, q102, S102, M102, H102, U102⟩ := id At
  refine go _ _ (fun _ k => X101.arraylength hx (by rw [e101]; exact Ar102.1) (State.isArrayOf_alike hZ.alike Ar102.2.1) (g := (mkF m 4 #[r' a, i' mn, u'] [(.ref t)])) rfl rfl (hb hby own_d9_4) _ k) ?_
  show G (T101.setTop (mkF m 5 #[r' a, i' mn, u'] [(.int cl102.slots.size.toInt32)]))
  rw [len_of S102 M102]
  show G (T101.setTop (mkF m 5 #[r' a, i' mn, u'] [(.int 16)]))
  refine go _ _ (fun _ k => XS.aloadN X101.here hx rfl (hb hby own_d9_5) rfl rfl k) ?_
  obtain ⟨T103, X103, e103, st103⟩ := getF X101 hx hZ hown (host := "") (Or.inl (ow hw 34 rfl)) Via.refl e101 Fc (g := (mkF m 6 #[r' a, i' mn, u'] [(.ref a), (.int 16)])) rfl rfl (hb hby own_d9_6)
  refine go _ _ (st103) ?_
  show G (T103.setTop (mkF m 9 #[r' a, i' mn, u'] [(.int 0), (.int 16)]))
  refine go _ _ (fun _ k => XS.ishr X103.here hx rfl (hb hby own_d9_9) rfl (XS.istoreN X103.here hx rfl (hb hby own_d9_10) rfl (l' := #[r' a, i' mn, i' 16]) rfl (XS.iloadN X103.here hx rfl (hb hby own_d9_11) rfl (XS.iloadN X103.here hx rfl (hb hby own_d9_12) rfl (XS.isub X103.here hx rfl (hb hby own_d9_13) rfl k))))) ?_
  show G (T103.setTop (mkF m 14 #[r' a, i' mn, i' 16] [(.int (mn - (16 : Int32)))]))
  refine go _ _ (fun _ k => XS.ifYes X103.here hx rfl (pc0 := 14) (pc' := 38) rfl (hb hby own_d9_14) rfl ((if0 _ _).trans (flt hm).2.2.2) (by decide) (by decide) k) ?_
  show G (T103.setTop (mkF m 38 #[r' a, i' mn, i' 16] []))
  refine fin T103 _ _ _ none X103 (fun _ => rfl) (by decide) (by decide) (by rw [e103]; exact ⟨N0, rfl, rfl⟩) _ (own_retV X103 hx hret (hb hby own_d9_38))
set_option maxHeartbeats 4000000 in
theorem own_ef_rmEc1 (m : MethodId) (x0 : Addr) (x1 : Int32) : entryFrame m #[(.ref x0), (.int x1)] 3 = mkF m 0 #[.val (.ref x0), .val (.int x1), .unset] [] := by rfl
set_option maxRecDepth 65536 in
set_option maxHeartbeats 40000000 in
theorem rmEc1 (l : Launch) (Z : State) (a0 : Array Value) (hw : ∀ d ∈ tables_1, d.before a0 Z = true) (z0 : Int32) (fm0 : Value) (gl : own_Gl Z z0 fm0) (ws : List Jvm.Cond) (a : Addr) (mn : Int32) (t : Addr) (kb : ClassId) (vs : List Value) (h0 : Heap) (n0 : Nat) (Z0 : n0 ≤ h0.size) (Fv : Fld Z h0 a "java/lang/AbstractStringBuilder" "value" "[B" (.ref t)) (Fc : Fld Z h0 a "java/lang/AbstractStringBuilder" "coder" "B" (.int (1 : Int32))) (At : Arv Z h0 t kb .byte (32 : Int32) vs (.int (0 : Int32))) (hm : ¬ (0 : Int32) < (mn - (16 : Int32))) :
    own_MetN l Z (⟨"java/lang/AbstractStringBuilder", "ensureCapacityInternal", "(I)V"⟩ : MethodName) jdk_68_method_9_code 3 none ws ({ frames := 0, cells := 0, slots := 0, locals := 0 } : Room) #[(.ref a), (.int mn)] h0 (fun v h L => Fr n0 L ∧ h = h0 ∧ (((v = none)))) := by
  refine own_metN (plainFor_of_name own_pn1) ?_
  intro p e s m below meth c s₁ G hx hby hml hZ hown hnm hret X0 e0 go fin
  obtain ⟨O2, P5, O4, R4, O_ad, O_hi, O_lo⟩ := id gl
  have N0 := Fr.nil n0
  refine go _ _ (fun _ k => castTop (own_ef_rmEc1 m a mn) k) ?_
  show G (s₁.setTop (mkF m 0 #[r' a, i' mn, u'] []))
  refine go _ _ (fun _ k => XS.aloadN X0.here hx rfl (hb hby own_d9_0) rfl rfl k) ?_
  obtain ⟨T101, X101, e101, st101⟩ := getF X0 hx hZ hown (host := "") (Or.inl (ow hw 32 rfl)) Via.refl e0 Fv (g := (mkF m 1 #[r' a, i' mn, u'] [(.ref a)])) rfl rfl (hb hby own_d9_1)
  refine go _ _ (st101) ?_
  show G (T101.setTop (mkF m 4 #[r' a, i' mn, u'] [(.ref t)]))
  obtain ⟨cl102, Ar102, q102, S102, M102, H102, U102⟩ := id At
  refine go _ _ (fun _ k => X101.arraylength hx (by rw [e101]; exact Ar102.1) (State.isArrayOf_alike hZ.alike Ar102.2.1) (g := (mkF m 4 #[r' a, i' mn, u'] [(.ref t)])) rfl rfl (hb hby own_d9_4) _ k) ?_
  show G (T101.setTop (mkF m 5 #[r' a, i' mn, u'] [(.int cl102.slots.size.toInt32)]))
  rw [len_of S102 M102]
  show G (T101.setTop (mkF m 5 #[r' a, i' mn, u'] [(.int 32)]))
  refine go _ _ (fun _ k => XS.aloadN X101.here hx rfl (hb hby own_d9_5) rfl rfl k) ?_
  obtain ⟨T103, X103, e103, st103⟩ := getF X101 hx hZ hown (host := "") (Or.inl (ow hw 34 rfl)) Via.refl e101 Fc (g := (mkF m 6 #[r' a, i' mn, u'] [(.ref a), (.int 32)])) rfl rfl (hb hby own_d9_6)
  refine go _ _ (st103) ?_
  show G (T103.setTop (mkF m 9 #[r' a, i' mn, u'] [(.int 1), (.int 32)]))
  refine go _ _ (fun _ k => XS.ishr X103.here hx rfl (hb hby own_d9_9) rfl (XS.istoreN X103.here hx rfl (hb hby own_d9_10) rfl (l' := #[r' a, i' mn, i' 16]) rfl (XS.iloadN X103.here hx rfl (hb hby own_d9_11) rfl (XS.iloadN X103.here hx rfl (hb hby own_d9_12) rfl (XS.isub X103.here hx rfl (hb hby own_d9_13) rfl k))))) ?_
  show G (T103.setTop (mkF m 14 #[r' a, i' mn, i' 16] [(.int (mn - (16 : Int32)))]))
  refine go _ _ (fun _ k => XS.ifYes X103.here hx rfl (pc0 := 14) (pc' := 38) rfl (hb hby own_d9_14) rfl ((if0 _ _).trans (flt hm).2.2.2) (by decide) (by decide) k) ?_
  show G (T103.setTop (mkF m 38 #[r' a, i' mn, i' 16] []))
  refine fin T103 _ _ _ none X103 (fun _ => rfl) (by decide) (by decide) (by rw [e103]; exact ⟨N0, rfl, rfl⟩) _ (own_retV X103 hx hret (hb hby own_d9_38))
theorem own_d6_0 : decode jdk_68_method_22_code 0 = .ok (.aload_n 1, 1) := by decide +kernel
theorem own_d6_1 : decode jdk_68_method_22_code 1 = .ok (.ifnonnull 8, 3) := by decide +kernel
theorem own_d6_9 : decode jdk_68_method_22_code 9 = .ok (.aload_n 1, 1) := by decide +kernel
theorem own_d6_10 : decode jdk_68_method_22_code 10 = .ok (.invokevirtual 32, 3) := by decide +kernel
theorem own_d6_13 : decode jdk_68_method_22_code 13 = .ok (.istore_n 2, 1) := by decide +kernel
theorem own_d6_14 : decode jdk_68_method_22_code 14 = .ok (.aload_n 0, 1) := by decide +kernel
theorem own_d6_15 : decode jdk_68_method_22_code 15 = .ok (.aload_n 0, 1) := by decide +kernel
theorem own_d6_16 : decode jdk_68_method_22_code 16 = .ok (.getfield 79, 3) := by decide +kernel
theorem own_d6_19 : decode jdk_68_method_22_code 19 = .ok (.iload_n 2, 1) := by decide +kernel
theorem own_d6_20 : decode jdk_68_method_22_code 20 = .ok (.iadd, 1) := by decide +kernel
theorem own_d6_21 : decode jdk_68_method_22_code 21 = .ok (.invokevirtual 100, 3) := by decide +kernel
theorem own_d6_24 : decode jdk_68_method_22_code 24 = .ok (.aload_n 0, 1) := by decide +kernel
theorem own_d6_25 : decode jdk_68_method_22_code 25 = .ok (.aload_n 0, 1) := by decide +kernel
theorem own_d6_26 : decode jdk_68_method_22_code 26 = .ok (.getfield 79, 3) := by decide +kernel
theorem own_d6_29 : decode jdk_68_method_22_code 29 = .ok (.aload_n 1, 1) := by decide +kernel
theorem own_pd26 : parseMethodDescriptor "(ILjava/lang/String;)V" = some ⟨[.int, (.object "java/lang/String")], none⟩ := by decide +kernel
theorem own_d6_30 : decode jdk_68_method_22_code 30 = .ok (.invokevirtual 208, 3) := by decide +kernel
theorem own_d6_33 : decode jdk_68_method_22_code 33 = .ok (.aload_n 0, 1) := by decide +kernel
theorem own_d6_34 : decode jdk_68_method_22_code 34 = .ok (.dup, 1) := by decide +kernel
theorem own_d6_35 : decode jdk_68_method_22_code 35 = .ok (.getfield 79, 3) := by decide +kernel
theorem own_d6_38 : decode jdk_68_method_22_code 38 = .ok (.iload_n 2, 1) := by decide +kernel
theorem own_d6_39 : decode jdk_68_method_22_code 39 = .ok (.iadd, 1) := by decide +kernel
theorem own_d6_40 : decode jdk_68_method_22_code 40 = .ok (.putfield 79, 3) := by decide +kernel
theorem own_d6_43 : decode jdk_68_method_22_code 43 = .ok (.aload_n 0, 1) := by decide +kernel
theorem own_d6_44 : decode jdk_68_method_22_code 44 = .ok (.areturn, 1) := by decide +kernel
set_option maxHeartbeats 4000000 in
theorem own_ef_rm6 (m : MethodId) (x0 : Addr) (x1 : Addr) : entryFrame m #[(.ref x0), (.ref x1)] 3 = mkF m 0 #[.val (.ref x0), .val (.ref x1), .unset] [] := by rfl
set_option maxRecDepth 65536 in
set_option maxHeartbeats 40000000 in
theorem rm6 (l : Launch) (Z : State) (a0 : Array Value) (hw : ∀ d ∈ tables_1, d.before a0 Z = true) (z0 : Int32) (fm0 : Value) (gl : own_Gl Z z0 fm0) (ws : List Jvm.Cond) (a : Addr) (q : Addr) (t : Addr) (cs : List Int32) (ds : List Int32) (h0 : Heap) (n0 : Nat) (Z0 : n0 ≤ h0.size) (Xo : Old Z n0 h0) (Ba : own_B Z h0 a t cs) (Sq : own_SF Z h0 q ds t) (hz : cs.length + ds.length ≤ 15) (gz_a : n0 ≤ a) (gz_t : n0 ≤ t) :
    own_MetN l Z (⟨"java/lang/AbstractStringBuilder", "append", "(Ljava/lang/String;)Ljava/lang/AbstractStringBuilder;"⟩ : MethodName) jdk_68_method_22_code 3 (some (.object "java/lang/AbstractStringBuilder")) ws ({ frames := 8, cells := 1, slots := 32, locals := 116 } : Room) #[(.ref a), (.ref q)] h0 (fun v h L => Fr n0 L ∧ Keep h0 h [a, t] ∧ ((∃ (t2 : Addr), (v = some (.ref a)) ∧ (t2 = t ∨ h0.size ≤ t2) ∧ (own_B Z h a t2 (cs ++ ds))))) := by
  refine own_metN (plainFor_of_name own_pn1) ?_
  intro p e s m below meth c s₁ G hx hby hml hZ hown hnm hret X0 e0 go fin
  obtain ⟨O2, P5, O4, R4, O_ad, O_hi, O_lo⟩ := id gl
  have N0 := Fr.nil n0
  refine go _ _ (fun _ k => castTop (own_ef_rm6 m a q) k) ?_
  show G (s₁.setTop (mkF m 0 #[r' a, r' q, u'] []))
  obtain ⟨Ea101, Fv101, Fn101, Fm101, bc101, cb101⟩ := id Ba
  rcases cb101 with ⟨Fc101, b8101, kb101, At101⟩ | ⟨Fc101, kb101, At101⟩
  · obtain ⟨to102, kq102, nq102, Es102, Vs102, bd102, ln102, cq102⟩ := id Sq
    rcases cq102 with ⟨Cs102, As102, be102⟩ | ⟨Cs102, As102⟩
    · refine go _ _ (fun _ k => XS.aloadN X0.here hx rfl (hb hby own_d6_0) rfl rfl k) ?_
      show G (s₁.setTop (mkF m 1 #[r' a, r' q, u'] [(.ref q)]))
      refine go _ _ (fun _ k => XS.ifnonnullYes X0.here hx rfl (pc0 := 1) (pc' := 9) rfl (hb hby own_d6_1) rfl (by decide) (by decide) k) ?_
      show G (s₁.setTop (mkF m 9 #[r' a, r' q, u'] []))
      refine go _ _ (fun _ k => XS.aloadN X0.here hx rfl (hb hby own_d6_9) rfl rfl k) ?_
      obtain ⟨rv103, T103, L103, X103, q103, st103⟩ := own_vi X0 hx hZ (y := (⟨"java/lang/String", "length", "()I"⟩ : MethodName)) (z := (⟨"java/lang/String", "length", "()I"⟩ : MethodName)) hown (ow hw 46 rfl) (ow hw 47 rfl) (ow hw 49 rfl) (ow hw 48 rfl) (Or.inl rfl) (by decide) (own_bkN (W := 0) (rm7 l Z a0 hw z0 fm0 gl [] q ds h0 n0 Z0 Xo (own_SF_S Sq)) hZ (ow hw 50 rfl) (ow hw 5 rfl) (by decide) (by decide)) e0 Es102 (g := (mkF m 10 #[r' a, r' q, u'] [(.ref q)])) rfl (by rw [hml]; rfl) (argsL := []) (rest := []) rfl (lenOf own_pd20 rfl) rfl (by show 2 * 0 + _ ≤ _; exact Nat.le_of_eq rfl) (hb hby own_d6_10) (by decide) (by decide)
      obtain ⟨Nq103, e103, rfl⟩ := q103
      have N103 := Fr.app N0 Nq103
      refine go _ _ (st103) ?_
      show G (T103.setTop (mkF m 13 #[r' a, r' q, u'] [(.int (own_n ds))]))
      refine go _ _ (fun _ k => XS.istoreN X103.here hx rfl (hb hby own_d6_13) rfl (l' := #[r' a, r' q, i' (own_n ds)]) rfl (XS.aloadN X103.here hx rfl (hb hby own_d6_14) rfl rfl (XS.aloadN X103.here hx rfl (hb hby own_d6_15) rfl rfl k))) ?_
      obtain ⟨T104, X104, e104, st104⟩ := getF X103 hx hZ hown (host := "") (Or.inl (ow hw 59 rfl)) Via.refl e103 Fn101 (g := (mkF m 16 #[r' a, r' q, i' (own_n ds)] [(.ref a), (.ref a)])) rfl rfl (hb hby own_d6_16)
      refine go _ _ (st104) ?_
      show G (T104.setTop (mkF m 19 #[r' a, r' q, i' (own_n ds)] [(.int (own_n cs)), (.ref a)]))
      refine go _ _ (fun _ k => XS.iloadN X104.here hx rfl (hb hby own_d6_19) rfl (XS.iadd X104.here hx rfl (hb hby own_d6_20) rfl k)) ?_
      obtain ⟨rv105, T105, L105, X105, q105, st105⟩ := own_pr X104 hx hZ (y := (⟨"java/lang/AbstractStringBuilder", "ensureCapacityInternal", "(I)V"⟩ : MethodName)) hown (ow hw 61 rfl) (ow hw 62 rfl) (ow hw 64 rfl) (ow hw 63 rfl) (ow hw 65 rfl) (by decide) (own_bkN (W := 0) (rmEc0 l Z a0 hw z0 fm0 gl [] a ((own_n cs) + (own_n ds)) t kb101 (own_bs cs) h0 n0 Z0 Fv101 Fc101 At101 (own_cap (cs := cs) (ds := ds) (by omega))) hZ (ow hw 65 rfl) (ow hw 26 rfl) (by decide) (by decide)) e104 Ea101 (g := (mkF m 21 #[r' a, r' q, i' (own_n ds)] [(.int ((own_n cs) + (own_n ds))), (.ref a)])) rfl (by rw [hml]; rfl) (argsL := [(.int ((own_n cs) + (own_n ds)))]) (rest := []) rfl (lenOf own_pd19 rfl) rfl (by show 2 * 0 + _ ≤ _; exact Nat.le_of_eq rfl) (hb hby own_d6_21) (by decide) (by decide)
      obtain ⟨Nq105, e105, rfl⟩ := q105
      have N105 := Fr.app N103 Nq105
      refine go _ _ (st105) ?_
      show G (T105.setTop (mkF m 24 #[r' a, r' q, i' (own_n ds)] []))
      refine go _ _ (fun _ k => XS.aloadN X105.here hx rfl (hb hby own_d6_24) rfl rfl (XS.aloadN X105.here hx rfl (hb hby own_d6_25) rfl rfl k)) ?_
      obtain ⟨T106, X106, e106, st106⟩ := getF X105 hx hZ hown (host := "") (Or.inl (ow hw 59 rfl)) Via.refl e105 Fn101 (g := (mkF m 26 #[r' a, r' q, i' (own_n ds)] [(.ref a), (.ref a)])) rfl rfl (hb hby own_d6_26)
      refine go _ _ (st106) ?_
      show G (T106.setTop (mkF m 29 #[r' a, r' q, i' (own_n ds)] [(.int (own_n cs)), (.ref a)]))
      refine go _ _ (fun _ k => XS.aloadN X106.here hx rfl (hb hby own_d6_29) rfl rfl k) ?_
      obtain ⟨rv107, T107, L107, X107, q107, st107⟩ := own_pr X106 hx hZ (y := (⟨"java/lang/AbstractStringBuilder", "putStringAt", "(ILjava/lang/String;)V"⟩ : MethodName)) hown (ow hw 66 rfl) (ow hw 67 rfl) (ow hw 69 rfl) (ow hw 68 rfl) (ow hw 70 rfl) (by decide) (own_bkN (W := 0) (rmPsLL l Z a0 hw z0 fm0 gl [] a (own_n cs) q t kb101 cs to102 kq102 ds h0 n0 Z0 Xo Ea101 Fv101 Fc101 At101 Es102 Cs102 Vs102 As102 rfl (by omega) gz_t) hZ (ow hw 70 rfl) (ow hw 26 rfl) (by decide) (by decide)) e106 Ea101 (g := (mkF m 30 #[r' a, r' q, i' (own_n ds)] [(.ref q), (.int (own_n cs)), (.ref a)])) rfl (by rw [hml]; rfl) (argsL := [(.int (own_n cs)), (.ref q)]) (rest := []) rfl (lenOf own_pd26 rfl) rfl (by show 2 * 0 + _ ≤ _; exact Nat.le_of_eq rfl) (hb hby own_d6_30) (by decide) (by decide)
      obtain ⟨Nq107, Kp107, ⟨rfl, f108⟩⟩ := q107
      have N107 := Fr.app N105 Nq107
      refine go _ _ (st107) ?_
      show G (T107.setTop (mkF m 33 #[r' a, r' q, i' (own_n ds)] []))
      refine go _ _ (fun _ k => XS.aloadN X107.here hx rfl (hb hby own_d6_33) rfl rfl (XS.dup X107.here hx rfl (hb hby own_d6_34) rfl rfl k)) ?_
      have K110 : Keep h0 T107.heap [t] := (Keep.refl h0 [t]).trans Kp107 (allS (Or.inl (List.mem_of_getElem? (i := 0) rfl)) all0)
      have ne111 : a ≠ t := Exa.neArv Ea101 At101 (ow hw 17 rfl)
      have F112 : Fld Z T107.heap a "java/lang/AbstractStringBuilder" "count" "I" (.int (own_n cs)) := (Fn101.keep K110 (ninS ne111 nin0))
      obtain ⟨T109, X109, e109, st109⟩ := getF X107 hx hZ hown (host := "") (Or.inl (ow hw 59 rfl)) Via.refl rfl F112 (g := (mkF m 35 #[r' a, r' q, i' (own_n ds)] [(.ref a), (.ref a)])) rfl rfl (hb hby own_d6_35)
      refine go _ _ (st109) ?_
      show G (T109.setTop (mkF m 38 #[r' a, r' q, i' (own_n ds)] [(.int (own_n cs)), (.ref a)]))
      refine go _ _ (fun _ k => XS.iloadN X109.here hx rfl (hb hby own_d6_38) rfl (XS.iadd X109.here hx rfl (hb hby own_d6_39) rfl k)) ?_
      show G (T109.setTop (mkF m 40 #[r' a, r' q, i' (own_n ds)] [(.int ((own_n cs) + (own_n ds))), (.ref a)]))
      rw [(own_napp cs ds)]
      show G (T109.setTop (mkF m 40 #[r' a, r' q, i' (own_n ds)] [(.int (own_n (cs ++ ds))), (.ref a)]))
      have F114 : Exa Z T107.heap a "java/lang/StringBuilder" := (Ea101.keep K110)
      obtain ⟨T113, h113, X113, e113, W113, st113⟩ := putF X109 hx hZ hown (host := "") (Or.inl (ow hw 59 rfl)) Via.refl e109 F112 F114 (Or.inl (ow hw 60 rfl)) (ow hw 17 rfl) (ty := .int) (by decide) rfl rfl (g := (mkF m 40 #[r' a, r' q, i' (own_n ds)] [(.int (own_n (cs ++ ds))), (.ref a)])) rfl rfl (hb hby own_d6_40)
      have F115 : Fld Z T107.heap a "java/lang/AbstractStringBuilder" "value" "[B" (.ref t) := (Fv101.keep K110 (ninS ne111 nin0))
      have F116 : Fld Z T107.heap a "java/lang/AbstractStringBuilder" "maybeLatin1" "Z" (.int (0 : Int32)) := (Fm101.keep K110 (ninS ne111 nin0))
      have F117 : Fld Z T107.heap a "java/lang/AbstractStringBuilder" "coder" "B" (.int (0 : Int32)) := (Fc101.keep K110 (ninS ne111 nin0))
      have N113 := Fr.snoc X113 N107 gz_a
      refine go _ _ (st113) ?_
      show G (T113.setTop (mkF m 43 #[r' a, r' q, i' (own_n ds)] []))
      refine go _ _ (fun _ k => XS.aloadN X113.here hx rfl (hb hby own_d6_43) rfl rfl k) ?_
      show G (T113.setTop (mkF m 44 #[r' a, r' q, i' (own_n ds)] [(.ref a)]))
      have K118 : Keep h0 T107.heap [a, t] := (Keep.refl h0 [a, t]).trans Kp107 (allS (Or.inl (List.mem_of_getElem? (i := 1) rfl)) all0)
      have K119 : Keep h0 h113 [a, t] := K118.wr W113 (Or.inl (List.mem_of_getElem? (i := 0) rfl))
      have K120 : Keep T107.heap h113 [a] := (Keep.refl T107.heap [a]).wr W113 (Or.inl (List.mem_of_getElem? (i := 0) rfl))
      have F121 : Arv Z h113 t kb101 .byte (16 : Int32) (own_bs (cs ++ ds)) (.int (0 : Int32)) := (f108.keep K120 (ninS (Ne.symm ne111) nin0))
      have Bx : own_B Z h113 a t (cs ++ ds) := ⟨(F114.wr W113), (F115.other W113 (Or.inr (RoadKit.slot_ne (t := (.array .byte)) (t' := .int) (Or.inl (ow hw 33 rfl)) (Or.inl (ow hw 60 rfl)) (by decide) (by decide) (by decide)))), (F112.same W113), (F116.other W113 (Or.inr (RoadKit.slot_ne (t := .boolean) (t' := .int) (Or.inl (ow hw 256 rfl)) (Or.inl (ow hw 60 rfl)) (by decide) (by decide) (by decide)))), (own_bda bc101 bd102), (Or.inl ⟨(F117.other W113 (Or.inr (RoadKit.slot_ne (t := .byte) (t' := .int) (Or.inl (ow hw 35 rfl)) (Or.inl (ow hw 60 rfl)) (by decide) (by decide) (by decide)))), (own_b8a b8101 be102), _, F121⟩)⟩
      refine fin T113 _ _ _ (some (.ref a)) X113 (fun q => nomatch q) (by decide) (by decide) (by rw [e113]; exact ⟨N113, K119, ⟨t, rfl, (Or.inl rfl), Bx⟩⟩) _ (own_retA X113 hx hret rfl rfl rfl (hb hby own_d6_44))
    · refine go _ _ (fun _ k => XS.aloadN X0.here hx rfl (hb hby own_d6_0) rfl rfl k) ?_
      show G (s₁.setTop (mkF m 1 #[r' a, r' q, u'] [(.ref q)]))
      refine go _ _ (fun _ k => XS.ifnonnullYes X0.here hx rfl (pc0 := 1) (pc' := 9) rfl (hb hby own_d6_1) rfl (by decide) (by decide) k) ?_
      show G (s₁.setTop (mkF m 9 #[r' a, r' q, u'] []))
      refine go _ _ (fun _ k => XS.aloadN X0.here hx rfl (hb hby own_d6_9) rfl rfl k) ?_
      obtain ⟨rv122, T122, L122, X122, q122, st122⟩ := own_vi X0 hx hZ (y := (⟨"java/lang/String", "length", "()I"⟩ : MethodName)) (z := (⟨"java/lang/String", "length", "()I"⟩ : MethodName)) hown (ow hw 46 rfl) (ow hw 47 rfl) (ow hw 49 rfl) (ow hw 48 rfl) (Or.inl rfl) (by decide) (own_bkN (W := 0) (rm7 l Z a0 hw z0 fm0 gl [] q ds h0 n0 Z0 Xo (own_SF_S Sq)) hZ (ow hw 50 rfl) (ow hw 5 rfl) (by decide) (by decide)) e0 Es102 (g := (mkF m 10 #[r' a, r' q, u'] [(.ref q)])) rfl (by rw [hml]; rfl) (argsL := []) (rest := []) rfl (lenOf own_pd20 rfl) rfl (by show 2 * 0 + _ ≤ _; exact Nat.le_of_eq rfl) (hb hby own_d6_10) (by decide) (by decide)
      obtain ⟨Nq122, e122, rfl⟩ := q122
      have N122 := Fr.app N0 Nq122
      refine go _ _ (st122) ?_
      show G (T122.setTop (mkF m 13 #[r' a, r' q, u'] [(.int (own_n ds))]))
      refine go _ _ (fun _ k => XS.istoreN X122.here hx rfl (hb hby own_d6_13) rfl (l' := #[r' a, r' q, i' (own_n ds)]) rfl (XS.aloadN X122.here hx rfl (hb hby own_d6_14) rfl rfl (XS.aloadN X122.here hx rfl (hb hby own_d6_15) rfl rfl k))) ?_
      obtain ⟨T123, X123, e123, st123⟩ := getF X122 hx hZ hown (host := "") (Or.inl (ow hw 59 rfl)) Via.refl e122 Fn101 (g := (mkF m 16 #[r' a, r' q, i' (own_n ds)] [(.ref a), (.ref a)])) rfl rfl (hb hby own_d6_16)
      refine go _ _ (st123) ?_
      show G (T123.setTop (mkF m 19 #[r' a, r' q, i' (own_n ds)] [(.int (own_n cs)), (.ref a)]))
      refine go _ _ (fun _ k => XS.iloadN X123.here hx rfl (hb hby own_d6_19) rfl (XS.iadd X123.here hx rfl (hb hby own_d6_20) rfl k)) ?_
      obtain ⟨rv124, T124, L124, X124, q124, st124⟩ := own_pr X123 hx hZ (y := (⟨"java/lang/AbstractStringBuilder", "ensureCapacityInternal", "(I)V"⟩ : MethodName)) hown (ow hw 61 rfl) (ow hw 62 rfl) (ow hw 64 rfl) (ow hw 63 rfl) (ow hw 65 rfl) (by decide) (own_bkN (W := 0) (rmEc0 l Z a0 hw z0 fm0 gl [] a ((own_n cs) + (own_n ds)) t kb101 (own_bs cs) h0 n0 Z0 Fv101 Fc101 At101 (own_cap (cs := cs) (ds := ds) (by omega))) hZ (ow hw 65 rfl) (ow hw 26 rfl) (by decide) (by decide)) e123 Ea101 (g := (mkF m 21 #[r' a, r' q, i' (own_n ds)] [(.int ((own_n cs) + (own_n ds))), (.ref a)])) rfl (by rw [hml]; rfl) (argsL := [(.int ((own_n cs) + (own_n ds)))]) (rest := []) rfl (lenOf own_pd19 rfl) rfl (by show 2 * 0 + _ ≤ _; exact Nat.le_of_eq rfl) (hb hby own_d6_21) (by decide) (by decide)
      obtain ⟨Nq124, e124, rfl⟩ := q124
      have N124 := Fr.app N122 Nq124
      refine go _ _ (st124) ?_
      show G (T124.setTop (mkF m 24 #[r' a, r' q, i' (own_n ds)] []))
      refine go _ _ (fun _ k => XS.aloadN X124.here hx rfl (hb hby own_d6_24) rfl rfl (XS.aloadN X124.here hx rfl (hb hby own_d6_25) rfl rfl k)) ?_
      obtain ⟨T125, X125, e125, st125⟩ := getF X124 hx hZ hown (host := "") (Or.inl (ow hw 59 rfl)) Via.refl e124 Fn101 (g := (mkF m 26 #[r' a, r' q, i' (own_n ds)] [(.ref a), (.ref a)])) rfl rfl (hb hby own_d6_26)
      refine go _ _ (st125) ?_
      show G (T125.setTop (mkF m 29 #[r' a, r' q, i' (own_n ds)] [(.int (own_n cs)), (.ref a)]))
      refine go _ _ (fun _ k => XS.aloadN X125.here hx rfl (hb hby own_d6_29) rfl rfl k) ?_
      obtain ⟨rv126, T126, L126, X126, q126, st126⟩ := own_pr X125 hx hZ (y := (⟨"java/lang/AbstractStringBuilder", "putStringAt", "(ILjava/lang/String;)V"⟩ : MethodName)) hown (ow hw 66 rfl) (ow hw 67 rfl) (ow hw 69 rfl) (ow hw 68 rfl) (ow hw 70 rfl) (by decide) (own_bkN (W := 0) (rmPsLW l Z a0 hw z0 fm0 gl [] a (own_n cs) q t kb101 cs to102 kq102 ds h0 n0 Z0 Xo Ea101 Fv101 Fc101 Fn101 Fm101 At101 b8101 bc101 (by omega) Es102 Cs102 Vs102 As102 rfl (by omega) gz_a) hZ (ow hw 70 rfl) (ow hw 26 rfl) (by decide) (by decide)) e125 Ea101 (g := (mkF m 30 #[r' a, r' q, i' (own_n ds)] [(.ref q), (.int (own_n cs)), (.ref a)])) rfl (by rw [hml]; rfl) (argsL := [(.int (own_n cs)), (.ref q)]) (rest := []) rfl (lenOf own_pd26 rfl) rfl (by show 2 * 0 + _ ≤ _; exact Nat.le_of_eq rfl) (hb hby own_d6_30) (by decide) (by decide)
      obtain ⟨Nq126, Kp126, ⟨t2_127, kb2_128, rfl, z129, f130, f131, f132, f133, f134, f135⟩⟩ := q126
      have N126 := Fr.app N124 Nq126
      refine go _ _ (st126) ?_
      show G (T126.setTop (mkF m 33 #[r' a, r' q, i' (own_n ds)] []))
      refine go _ _ (fun _ k => XS.aloadN X126.here hx rfl (hb hby own_d6_33) rfl rfl (XS.dup X126.here hx rfl (hb hby own_d6_34) rfl rfl k)) ?_
      obtain ⟨T136, X136, e136, st136⟩ := getF X126 hx hZ hown (host := "") (Or.inl (ow hw 59 rfl)) Via.refl rfl f133 (g := (mkF m 35 #[r' a, r' q, i' (own_n ds)] [(.ref a), (.ref a)])) rfl rfl (hb hby own_d6_35)
      refine go _ _ (st136) ?_
      show G (T136.setTop (mkF m 38 #[r' a, r' q, i' (own_n ds)] [(.int (own_n cs)), (.ref a)]))
      refine go _ _ (fun _ k => XS.iloadN X136.here hx rfl (hb hby own_d6_38) rfl (XS.iadd X136.here hx rfl (hb hby own_d6_39) rfl k)) ?_
      show G (T136.setTop (mkF m 40 #[r' a, r' q, i' (own_n ds)] [(.int ((own_n cs) + (own_n ds))), (.ref a)]))
      rw [(own_napp cs ds)]
      show G (T136.setTop (mkF m 40 #[r' a, r' q, i' (own_n ds)] [(.int (own_n (cs ++ ds))), (.ref a)]))
      obtain ⟨T137, h137, X137, e137, W137, st137⟩ := putF X136 hx hZ hown (host := "") (Or.inl (ow hw 59 rfl)) Via.refl e136 f133 f130 (Or.inl (ow hw 60 rfl)) (ow hw 17 rfl) (ty := .int) (by decide) rfl rfl (g := (mkF m 40 #[r' a, r' q, i' (own_n ds)] [(.int (own_n (cs ++ ds))), (.ref a)])) rfl rfl (hb hby own_d6_40)
      have N137 := Fr.snoc X137 N126 gz_a
      refine go _ _ (st137) ?_
      show G (T137.setTop (mkF m 43 #[r' a, r' q, i' (own_n ds)] []))
      refine go _ _ (fun _ k => XS.aloadN X137.here hx rfl (hb hby own_d6_43) rfl rfl k) ?_
      show G (T137.setTop (mkF m 44 #[r' a, r' q, i' (own_n ds)] [(.ref a)]))
      have K138 : Keep h0 T126.heap [a, t] := (Keep.refl h0 [a, t]).trans Kp126 (allS (Or.inl (List.mem_of_getElem? (i := 0) rfl)) all0)
      have K139 : Keep h0 h137 [a, t] := K138.wr W137 (Or.inl (List.mem_of_getElem? (i := 0) rfl))
      have K140 : Keep T126.heap h137 [a] := (Keep.refl T126.heap [a]).wr W137 (Or.inl (List.mem_of_getElem? (i := 0) rfl))
      have F141 : Arv Z h137 t2_127 kb2_128 .byte (32 : Int32) (own_u (cs ++ ds)) (.int (0 : Int32)) := (f135.keep K140 (ninS (Ne.symm (Nat.ne_of_lt (Nat.lt_of_lt_of_le Ea101.lt z129))) nin0))
      have Bx : own_B Z h137 a t2_127 (cs ++ ds) := ⟨(f130.wr W137), (f131.other W137 (Or.inr (RoadKit.slot_ne (t := (.array .byte)) (t' := .int) (Or.inl (ow hw 33 rfl)) (Or.inl (ow hw 60 rfl)) (by decide) (by decide) (by decide)))), (f133.same W137), (f134.other W137 (Or.inr (RoadKit.slot_ne (t := .boolean) (t' := .int) (Or.inl (ow hw 256 rfl)) (Or.inl (ow hw 60 rfl)) (by decide) (by decide) (by decide)))), (own_bda bc101 bd102), (Or.inr ⟨(f132.other W137 (Or.inr (RoadKit.slot_ne (t := .byte) (t' := .int) (Or.inl (ow hw 35 rfl)) (Or.inl (ow hw 60 rfl)) (by decide) (by decide) (by decide)))), _, F141⟩)⟩
      refine fin T137 _ _ _ (some (.ref a)) X137 (fun q => nomatch q) (by decide) (by decide) (by rw [e137]; exact ⟨N137, K139, ⟨t2_127, rfl, (Or.inr z129), Bx⟩⟩) _ (own_retA X137 hx hret rfl rfl rfl (hb hby own_d6_44))
  · obtain ⟨to142, kq142, nq142, Es142, Vs142, bd142, ln142, cq142⟩ := id Sq
    rcases cq142 with ⟨Cs142, As142, be142⟩ | ⟨Cs142, As142⟩
    · refine go _ _ (fun _ k => XS.aloadN X0.here hx rfl (hb hby own_d6_0) rfl rfl k) ?_
      show G (s₁.setTop (mkF m 1 #[r' a, r' q, u'] [(.ref q)]))
      refine go _ _ (fun _ k => XS.ifnonnullYes X0.here hx rfl (pc0 := 1) (pc' := 9) rfl (hb hby own_d6_1) rfl (by decide) (by decide) k) ?_
      show G (s₁.setTop (mkF m 9 #[r' a, r' q, u'] []))
      refine go _ _ (fun _ k => XS.aloadN X0.here hx rfl (hb hby own_d6_9) rfl rfl k) ?_
      obtain ⟨rv143, T143, L143, X143, q143, st143⟩ := own_vi X0 hx hZ (y := (⟨"java/lang/String", "length", "()I"⟩ : MethodName)) (z := (⟨"java/lang/String", "length", "()I"⟩ : MethodName)) hown (ow hw 46 rfl) (ow hw 47 rfl) (ow hw 49 rfl) (ow hw 48 rfl) (Or.inl rfl) (by decide) (own_bkN (W := 0) (rm7 l Z a0 hw z0 fm0 gl [] q ds h0 n0 Z0 Xo (own_SF_S Sq)) hZ (ow hw 50 rfl) (ow hw 5 rfl) (by decide) (by decide)) e0 Es142 (g := (mkF m 10 #[r' a, r' q, u'] [(.ref q)])) rfl (by rw [hml]; rfl) (argsL := []) (rest := []) rfl (lenOf own_pd20 rfl) rfl (by show 2 * 0 + _ ≤ _; exact Nat.le_of_eq rfl) (hb hby own_d6_10) (by decide) (by decide)
      obtain ⟨Nq143, e143, rfl⟩ := q143
      have N143 := Fr.app N0 Nq143
      refine go _ _ (st143) ?_
      show G (T143.setTop (mkF m 13 #[r' a, r' q, u'] [(.int (own_n ds))]))
      refine go _ _ (fun _ k => XS.istoreN X143.here hx rfl (hb hby own_d6_13) rfl (l' := #[r' a, r' q, i' (own_n ds)]) rfl (XS.aloadN X143.here hx rfl (hb hby own_d6_14) rfl rfl (XS.aloadN X143.here hx rfl (hb hby own_d6_15) rfl rfl k))) ?_
      obtain ⟨T144, X144, e144, st144⟩ := getF X143 hx hZ hown (host := "") (Or.inl (ow hw 59 rfl)) Via.refl e143 Fn101 (g := (mkF m 16 #[r' a, r' q, i' (own_n ds)] [(.ref a), (.ref a)])) rfl rfl (hb hby own_d6_16)
      refine go _ _ (st144) ?_
      show G (T144.setTop (mkF m 19 #[r' a, r' q, i' (own_n ds)] [(.int (own_n cs)), (.ref a)]))
      refine go _ _ (fun _ k => XS.iloadN X144.here hx rfl (hb hby own_d6_19) rfl (XS.iadd X144.here hx rfl (hb hby own_d6_20) rfl k)) ?_
      obtain ⟨rv145, T145, L145, X145, q145, st145⟩ := own_pr X144 hx hZ (y := (⟨"java/lang/AbstractStringBuilder", "ensureCapacityInternal", "(I)V"⟩ : MethodName)) hown (ow hw 61 rfl) (ow hw 62 rfl) (ow hw 64 rfl) (ow hw 63 rfl) (ow hw 65 rfl) (by decide) (own_bkN (W := 0) (rmEc1 l Z a0 hw z0 fm0 gl [] a ((own_n cs) + (own_n ds)) t kb101 (own_u cs) h0 n0 Z0 Fv101 Fc101 At101 (own_cap (cs := cs) (ds := ds) (by omega))) hZ (ow hw 65 rfl) (ow hw 26 rfl) (by decide) (by decide)) e144 Ea101 (g := (mkF m 21 #[r' a, r' q, i' (own_n ds)] [(.int ((own_n cs) + (own_n ds))), (.ref a)])) rfl (by rw [hml]; rfl) (argsL := [(.int ((own_n cs) + (own_n ds)))]) (rest := []) rfl (lenOf own_pd19 rfl) rfl (by show 2 * 0 + _ ≤ _; exact Nat.le_of_eq rfl) (hb hby own_d6_21) (by decide) (by decide)
      obtain ⟨Nq145, e145, rfl⟩ := q145
      have N145 := Fr.app N143 Nq145
      refine go _ _ (st145) ?_
      show G (T145.setTop (mkF m 24 #[r' a, r' q, i' (own_n ds)] []))
      refine go _ _ (fun _ k => XS.aloadN X145.here hx rfl (hb hby own_d6_24) rfl rfl (XS.aloadN X145.here hx rfl (hb hby own_d6_25) rfl rfl k)) ?_
      obtain ⟨T146, X146, e146, st146⟩ := getF X145 hx hZ hown (host := "") (Or.inl (ow hw 59 rfl)) Via.refl e145 Fn101 (g := (mkF m 26 #[r' a, r' q, i' (own_n ds)] [(.ref a), (.ref a)])) rfl rfl (hb hby own_d6_26)
      refine go _ _ (st146) ?_
      show G (T146.setTop (mkF m 29 #[r' a, r' q, i' (own_n ds)] [(.int (own_n cs)), (.ref a)]))
      refine go _ _ (fun _ k => XS.aloadN X146.here hx rfl (hb hby own_d6_29) rfl rfl k) ?_
      obtain ⟨rv147, T147, L147, X147, q147, st147⟩ := own_pr X146 hx hZ (y := (⟨"java/lang/AbstractStringBuilder", "putStringAt", "(ILjava/lang/String;)V"⟩ : MethodName)) hown (ow hw 66 rfl) (ow hw 67 rfl) (ow hw 69 rfl) (ow hw 68 rfl) (ow hw 70 rfl) (by decide) (own_bkN (W := 0) (rmPsWL l Z a0 hw z0 fm0 gl [] a (own_n cs) q t kb101 cs to142 kq142 ds h0 n0 Z0 Xo Ea101 Fv101 Fc101 At101 Es142 Cs142 Vs142 As142 rfl (by omega) nq142 be142 bd142 gz_t) hZ (ow hw 70 rfl) (ow hw 26 rfl) (by decide) (by decide)) e146 Ea101 (g := (mkF m 30 #[r' a, r' q, i' (own_n ds)] [(.ref q), (.int (own_n cs)), (.ref a)])) rfl (by rw [hml]; rfl) (argsL := [(.int (own_n cs)), (.ref q)]) (rest := []) rfl (lenOf own_pd26 rfl) rfl (by show 2 * 0 + _ ≤ _; exact Nat.le_of_eq rfl) (hb hby own_d6_30) (by decide) (by decide)
      obtain ⟨Nq147, Kp147, ⟨rfl, f148⟩⟩ := q147
      have N147 := Fr.app N145 Nq147
      refine go _ _ (st147) ?_
      show G (T147.setTop (mkF m 33 #[r' a, r' q, i' (own_n ds)] []))
      refine go _ _ (fun _ k => XS.aloadN X147.here hx rfl (hb hby own_d6_33) rfl rfl (XS.dup X147.here hx rfl (hb hby own_d6_34) rfl rfl k)) ?_
      have K150 : Keep h0 T147.heap [t] := (Keep.refl h0 [t]).trans Kp147 (allS (Or.inl (List.mem_of_getElem? (i := 0) rfl)) all0)
      have ne151 : a ≠ t := Exa.neArv Ea101 At101 (ow hw 17 rfl)
      have F152 : Fld Z T147.heap a "java/lang/AbstractStringBuilder" "count" "I" (.int (own_n cs)) := (Fn101.keep K150 (ninS ne151 nin0))
      obtain ⟨T149, X149, e149, st149⟩ := getF X147 hx hZ hown (host := "") (Or.inl (ow hw 59 rfl)) Via.refl rfl F152 (g := (mkF m 35 #[r' a, r' q, i' (own_n ds)] [(.ref a), (.ref a)])) rfl rfl (hb hby own_d6_35)
      refine go _ _ (st149) ?_
      show G (T149.setTop (mkF m 38 #[r' a, r' q, i' (own_n ds)] [(.int (own_n cs)), (.ref a)]))
      refine go _ _ (fun _ k => XS.iloadN X149.here hx rfl (hb hby own_d6_38) rfl (XS.iadd X149.here hx rfl (hb hby own_d6_39) rfl k)) ?_
      show G (T149.setTop (mkF m 40 #[r' a, r' q, i' (own_n ds)] [(.int ((own_n cs) + (own_n ds))), (.ref a)]))
      rw [(own_napp cs ds)]
      show G (T149.setTop (mkF m 40 #[r' a, r' q, i' (own_n ds)] [(.int (own_n (cs ++ ds))), (.ref a)]))
      have F154 : Exa Z T147.heap a "java/lang/StringBuilder" := (Ea101.keep K150)
      obtain ⟨T153, h153, X153, e153, W153, st153⟩ := putF X149 hx hZ hown (host := "") (Or.inl (ow hw 59 rfl)) Via.refl e149 F152 F154 (Or.inl (ow hw 60 rfl)) (ow hw 17 rfl) (ty := .int) (by decide) rfl rfl (g := (mkF m 40 #[r' a, r' q, i' (own_n ds)] [(.int (own_n (cs ++ ds))), (.ref a)])) rfl rfl (hb hby own_d6_40)
      have F155 : Fld Z T147.heap a "java/lang/AbstractStringBuilder" "value" "[B" (.ref t) := (Fv101.keep K150 (ninS ne151 nin0))
      have F156 : Fld Z T147.heap a "java/lang/AbstractStringBuilder" "maybeLatin1" "Z" (.int (0 : Int32)) := (Fm101.keep K150 (ninS ne151 nin0))
      have F157 : Fld Z T147.heap a "java/lang/AbstractStringBuilder" "coder" "B" (.int (1 : Int32)) := (Fc101.keep K150 (ninS ne151 nin0))
      have N153 := Fr.snoc X153 N147 gz_a
      refine go _ _ (st153) ?_
      show G (T153.setTop (mkF m 43 #[r' a, r' q, i' (own_n ds)] []))
      refine go _ _ (fun _ k => XS.aloadN X153.here hx rfl (hb hby own_d6_43) rfl rfl k) ?_
      show G (T153.setTop (mkF m 44 #[r' a, r' q, i' (own_n ds)] [(.ref a)]))
      have K158 : Keep h0 T147.heap [a, t] := (Keep.refl h0 [a, t]).trans Kp147 (allS (Or.inl (List.mem_of_getElem? (i := 1) rfl)) all0)
      have K159 : Keep h0 h153 [a, t] := K158.wr W153 (Or.inl (List.mem_of_getElem? (i := 0) rfl))
      have K160 : Keep T147.heap h153 [a] := (Keep.refl T147.heap [a]).wr W153 (Or.inl (List.mem_of_getElem? (i := 0) rfl))
      have F161 : Arv Z h153 t kb101 .byte (32 : Int32) (own_u (cs ++ ds)) (.int (0 : Int32)) := (f148.keep K160 (ninS (Ne.symm ne151) nin0))
      have Bx : own_B Z h153 a t (cs ++ ds) := ⟨(F154.wr W153), (F155.other W153 (Or.inr (RoadKit.slot_ne (t := (.array .byte)) (t' := .int) (Or.inl (ow hw 33 rfl)) (Or.inl (ow hw 60 rfl)) (by decide) (by decide) (by decide)))), (F152.same W153), (F156.other W153 (Or.inr (RoadKit.slot_ne (t := .boolean) (t' := .int) (Or.inl (ow hw 256 rfl)) (Or.inl (ow hw 60 rfl)) (by decide) (by decide) (by decide)))), (own_bda bc101 bd142), (Or.inr ⟨(F157.other W153 (Or.inr (RoadKit.slot_ne (t := .byte) (t' := .int) (Or.inl (ow hw 35 rfl)) (Or.inl (ow hw 60 rfl)) (by decide) (by decide) (by decide)))), _, F161⟩)⟩
      refine fin T153 _ _ _ (some (.ref a)) X153 (fun q => nomatch q) (by decide) (by decide) (by rw [e153]; exact ⟨N153, K159, ⟨t, rfl, (Or.inl rfl), Bx⟩⟩) _ (own_retA X153 hx hret rfl rfl rfl (hb hby own_d6_44))
    · refine go _ _ (fun _ k => XS.aloadN X0.here hx rfl (hb hby own_d6_0) rfl rfl k) ?_
      show G (s₁.setTop (mkF m 1 #[r' a, r' q, u'] [(.ref q)]))
      refine go _ _ (fun _ k => XS.ifnonnullYes X0.here hx rfl (pc0 := 1) (pc' := 9) rfl (hb hby own_d6_1) rfl (by decide) (by decide) k) ?_
      show G (s₁.setTop (mkF m 9 #[r' a, r' q, u'] []))
      refine go _ _ (fun _ k => XS.aloadN X0.here hx rfl (hb hby own_d6_9) rfl rfl k) ?_
      obtain ⟨rv162, T162, L162, X162, q162, st162⟩ := own_vi X0 hx hZ (y := (⟨"java/lang/String", "length", "()I"⟩ : MethodName)) (z := (⟨"java/lang/String", "length", "()I"⟩ : MethodName)) hown (ow hw 46 rfl) (ow hw 47 rfl) (ow hw 49 rfl) (ow hw 48 rfl) (Or.inl rfl) (by decide) (own_bkN (W := 0) (rm7 l Z a0 hw z0 fm0 gl [] q ds h0 n0 Z0 Xo (own_SF_S Sq)) hZ (ow hw 50 rfl) (ow hw 5 rfl) (by decide) (by decide)) e0 Es142 (g := (mkF m 10 #[r' a, r' q, u'] [(.ref q)])) rfl (by rw [hml]; rfl) (argsL := []) (rest := []) rfl (lenOf own_pd20 rfl) rfl (by show 2 * 0 + _ ≤ _; exact Nat.le_of_eq rfl) (hb hby own_d6_10) (by decide) (by decide)
      obtain ⟨Nq162, e162, rfl⟩ := q162
      have N162 := Fr.app N0 Nq162
      refine go _ _ (st162) ?_
      show G (T162.setTop (mkF m 13 #[r' a, r' q, u'] [(.int (own_n ds))]))
      refine go _ _ (fun _ k => XS.istoreN X162.here hx rfl (hb hby own_d6_13) rfl (l' := #[r' a, r' q, i' (own_n ds)]) rfl (XS.aloadN X162.here hx rfl (hb hby own_d6_14) rfl rfl (XS.aloadN X162.here hx rfl (hb hby own_d6_15) rfl rfl k))) ?_
      obtain ⟨T163, X163, e163, st163⟩ := getF X162 hx hZ hown (host := "") (Or.inl (ow hw 59 rfl)) Via.refl e162 Fn101 (g := (mkF m 16 #[r' a, r' q, i' (own_n ds)] [(.ref a), (.ref a)])) rfl rfl (hb hby own_d6_16)
      refine go _ _ (st163) ?_
      show G (T163.setTop (mkF m 19 #[r' a, r' q, i' (own_n ds)] [(.int (own_n cs)), (.ref a)]))
      refine go _ _ (fun _ k => XS.iloadN X163.here hx rfl (hb hby own_d6_19) rfl (XS.iadd X163.here hx rfl (hb hby own_d6_20) rfl k)) ?_
      obtain ⟨rv164, T164, L164, X164, q164, st164⟩ := own_pr X163 hx hZ (y := (⟨"java/lang/AbstractStringBuilder", "ensureCapacityInternal", "(I)V"⟩ : MethodName)) hown (ow hw 61 rfl) (ow hw 62 rfl) (ow hw 64 rfl) (ow hw 63 rfl) (ow hw 65 rfl) (by decide) (own_bkN (W := 0) (rmEc1 l Z a0 hw z0 fm0 gl [] a ((own_n cs) + (own_n ds)) t kb101 (own_u cs) h0 n0 Z0 Fv101 Fc101 At101 (own_cap (cs := cs) (ds := ds) (by omega))) hZ (ow hw 65 rfl) (ow hw 26 rfl) (by decide) (by decide)) e163 Ea101 (g := (mkF m 21 #[r' a, r' q, i' (own_n ds)] [(.int ((own_n cs) + (own_n ds))), (.ref a)])) rfl (by rw [hml]; rfl) (argsL := [(.int ((own_n cs) + (own_n ds)))]) (rest := []) rfl (lenOf own_pd19 rfl) rfl (by show 2 * 0 + _ ≤ _; exact Nat.le_of_eq rfl) (hb hby own_d6_21) (by decide) (by decide)
      obtain ⟨Nq164, e164, rfl⟩ := q164
      have N164 := Fr.app N162 Nq164
      refine go _ _ (st164) ?_
      show G (T164.setTop (mkF m 24 #[r' a, r' q, i' (own_n ds)] []))
      refine go _ _ (fun _ k => XS.aloadN X164.here hx rfl (hb hby own_d6_24) rfl rfl (XS.aloadN X164.here hx rfl (hb hby own_d6_25) rfl rfl k)) ?_
      obtain ⟨T165, X165, e165, st165⟩ := getF X164 hx hZ hown (host := "") (Or.inl (ow hw 59 rfl)) Via.refl e164 Fn101 (g := (mkF m 26 #[r' a, r' q, i' (own_n ds)] [(.ref a), (.ref a)])) rfl rfl (hb hby own_d6_26)
      refine go _ _ (st165) ?_
      show G (T165.setTop (mkF m 29 #[r' a, r' q, i' (own_n ds)] [(.int (own_n cs)), (.ref a)]))
      refine go _ _ (fun _ k => XS.aloadN X165.here hx rfl (hb hby own_d6_29) rfl rfl k) ?_
      obtain ⟨rv166, T166, L166, X166, q166, st166⟩ := own_pr X165 hx hZ (y := (⟨"java/lang/AbstractStringBuilder", "putStringAt", "(ILjava/lang/String;)V"⟩ : MethodName)) hown (ow hw 66 rfl) (ow hw 67 rfl) (ow hw 69 rfl) (ow hw 68 rfl) (ow hw 70 rfl) (by decide) (own_bkN (W := 0) (rmPsWW l Z a0 hw z0 fm0 gl [] a (own_n cs) q t kb101 cs to142 kq142 ds h0 n0 Z0 Xo Ea101 Fv101 Fc101 At101 Es142 Cs142 Vs142 As142 rfl (by omega) gz_t) hZ (ow hw 70 rfl) (ow hw 26 rfl) (by decide) (by decide)) e165 Ea101 (g := (mkF m 30 #[r' a, r' q, i' (own_n ds)] [(.ref q), (.int (own_n cs)), (.ref a)])) rfl (by rw [hml]; rfl) (argsL := [(.int (own_n cs)), (.ref q)]) (rest := []) rfl (lenOf own_pd26 rfl) rfl (by show 2 * 0 + _ ≤ _; exact Nat.le_of_eq rfl) (hb hby own_d6_30) (by decide) (by decide)
      obtain ⟨Nq166, Kp166, ⟨rfl, f167⟩⟩ := q166
      have N166 := Fr.app N164 Nq166
      refine go _ _ (st166) ?_
      show G (T166.setTop (mkF m 33 #[r' a, r' q, i' (own_n ds)] []))
      refine go _ _ (fun _ k => XS.aloadN X166.here hx rfl (hb hby own_d6_33) rfl rfl (XS.dup X166.here hx rfl (hb hby own_d6_34) rfl rfl k)) ?_
      have K169 : Keep h0 T166.heap [t] := (Keep.refl h0 [t]).trans Kp166 (allS (Or.inl (List.mem_of_getElem? (i := 0) rfl)) all0)
      have ne170 : a ≠ t := Exa.neArv Ea101 At101 (ow hw 17 rfl)
      have F171 : Fld Z T166.heap a "java/lang/AbstractStringBuilder" "count" "I" (.int (own_n cs)) := (Fn101.keep K169 (ninS ne170 nin0))
      obtain ⟨T168, X168, e168, st168⟩ := getF X166 hx hZ hown (host := "") (Or.inl (ow hw 59 rfl)) Via.refl rfl F171 (g := (mkF m 35 #[r' a, r' q, i' (own_n ds)] [(.ref a), (.ref a)])) rfl rfl (hb hby own_d6_35)
      refine go _ _ (st168) ?_
      show G (T168.setTop (mkF m 38 #[r' a, r' q, i' (own_n ds)] [(.int (own_n cs)), (.ref a)]))
      refine go _ _ (fun _ k => XS.iloadN X168.here hx rfl (hb hby own_d6_38) rfl (XS.iadd X168.here hx rfl (hb hby own_d6_39) rfl k)) ?_
      show G (T168.setTop (mkF m 40 #[r' a, r' q, i' (own_n ds)] [(.int ((own_n cs) + (own_n ds))), (.ref a)]))
      rw [(own_napp cs ds)]
      show G (T168.setTop (mkF m 40 #[r' a, r' q, i' (own_n ds)] [(.int (own_n (cs ++ ds))), (.ref a)]))
      have F173 : Exa Z T166.heap a "java/lang/StringBuilder" := (Ea101.keep K169)
      obtain ⟨T172, h172, X172, e172, W172, st172⟩ := putF X168 hx hZ hown (host := "") (Or.inl (ow hw 59 rfl)) Via.refl e168 F171 F173 (Or.inl (ow hw 60 rfl)) (ow hw 17 rfl) (ty := .int) (by decide) rfl rfl (g := (mkF m 40 #[r' a, r' q, i' (own_n ds)] [(.int (own_n (cs ++ ds))), (.ref a)])) rfl rfl (hb hby own_d6_40)
      have F174 : Fld Z T166.heap a "java/lang/AbstractStringBuilder" "value" "[B" (.ref t) := (Fv101.keep K169 (ninS ne170 nin0))
      have F175 : Fld Z T166.heap a "java/lang/AbstractStringBuilder" "maybeLatin1" "Z" (.int (0 : Int32)) := (Fm101.keep K169 (ninS ne170 nin0))
      have F176 : Fld Z T166.heap a "java/lang/AbstractStringBuilder" "coder" "B" (.int (1 : Int32)) := (Fc101.keep K169 (ninS ne170 nin0))
      have N172 := Fr.snoc X172 N166 gz_a
      refine go _ _ (st172) ?_
      show G (T172.setTop (mkF m 43 #[r' a, r' q, i' (own_n ds)] []))
      refine go _ _ (fun _ k => XS.aloadN X172.here hx rfl (hb hby own_d6_43) rfl rfl k) ?_
      show G (T172.setTop (mkF m 44 #[r' a, r' q, i' (own_n ds)] [(.ref a)]))
      have K177 : Keep h0 T166.heap [a, t] := (Keep.refl h0 [a, t]).trans Kp166 (allS (Or.inl (List.mem_of_getElem? (i := 1) rfl)) all0)
      have K178 : Keep h0 h172 [a, t] := K177.wr W172 (Or.inl (List.mem_of_getElem? (i := 0) rfl))
      have K179 : Keep T166.heap h172 [a] := (Keep.refl T166.heap [a]).wr W172 (Or.inl (List.mem_of_getElem? (i := 0) rfl))
      have F180 : Arv Z h172 t kb101 .byte (32 : Int32) (own_u (cs ++ ds)) (.int (0 : Int32)) := (f167.keep K179 (ninS (Ne.symm ne170) nin0))
      have Bx : own_B Z h172 a t (cs ++ ds) := ⟨(F173.wr W172), (F174.other W172 (Or.inr (RoadKit.slot_ne (t := (.array .byte)) (t' := .int) (Or.inl (ow hw 33 rfl)) (Or.inl (ow hw 60 rfl)) (by decide) (by decide) (by decide)))), (F171.same W172), (F175.other W172 (Or.inr (RoadKit.slot_ne (t := .boolean) (t' := .int) (Or.inl (ow hw 256 rfl)) (Or.inl (ow hw 60 rfl)) (by decide) (by decide) (by decide)))), (own_bda bc101 bd142), (Or.inr ⟨(F176.other W172 (Or.inr (RoadKit.slot_ne (t := .byte) (t' := .int) (Or.inl (ow hw 35 rfl)) (Or.inl (ow hw 60 rfl)) (by decide) (by decide) (by decide)))), _, F180⟩)⟩
      refine fin T172 _ _ _ (some (.ref a)) X172 (fun q => nomatch q) (by decide) (by decide) (by rw [e172]; exact ⟨N172, K178, ⟨t, rfl, (Or.inl rfl), Bx⟩⟩) _ (own_retA X172 hx hret rfl rfl rfl (hb hby own_d6_44))
theorem own_d5_0 : decode jdk_67_method_7_code 0 = .ok (.aload_n 0, 1) := by decide +kernel
theorem own_d5_1 : decode jdk_67_method_7_code 1 = .ok (.aload_n 1, 1) := by decide +kernel
theorem own_pd27 : parseMethodDescriptor "(Ljava/lang/String;)Ljava/lang/AbstractStringBuilder;" = some ⟨[(.object "java/lang/String")], some (.object "java/lang/AbstractStringBuilder")⟩ := by decide +kernel
theorem own_d5_2 : decode jdk_67_method_7_code 2 = .ok (.invokespecial 29, 3) := by decide +kernel
theorem own_d5_5 : decode jdk_67_method_7_code 5 = .ok (.pop, 1) := by decide +kernel
theorem own_d5_6 : decode jdk_67_method_7_code 6 = .ok (.aload_n 0, 1) := by decide +kernel
theorem own_d5_7 : decode jdk_67_method_7_code 7 = .ok (.areturn, 1) := by decide +kernel
set_option maxHeartbeats 4000000 in
theorem own_ef_rm5 (m : MethodId) (x0 : Addr) (x1 : Addr) : entryFrame m #[(.ref x0), (.ref x1)] 2 = mkF m 0 #[.val (.ref x0), .val (.ref x1)] [] := by rfl
set_option maxRecDepth 65536 in
set_option maxHeartbeats 40000000 in
theorem rm5 (l : Launch) (Z : State) (a0 : Array Value) (hw : ∀ d ∈ tables_1, d.before a0 Z = true) (z0 : Int32) (fm0 : Value) (gl : own_Gl Z z0 fm0) (ws : List Jvm.Cond) (a : Addr) (q : Addr) (t : Addr) (cs : List Int32) (ds : List Int32) (h0 : Heap) (n0 : Nat) (Z0 : n0 ≤ h0.size) (Xo : Old Z n0 h0) (Ba : own_B Z h0 a t cs) (Sq : own_SF Z h0 q ds t) (hz : cs.length + ds.length ≤ 15) (gz_a : n0 ≤ a) (gz_t : n0 ≤ t) :
    own_MetN l Z (⟨"java/lang/StringBuilder", "append", "(Ljava/lang/String;)Ljava/lang/StringBuilder;"⟩ : MethodName) jdk_67_method_7_code 2 (some (.object "java/lang/StringBuilder")) ws ({ frames := 9, cells := 1, slots := 32, locals := 130 } : Room) #[(.ref a), (.ref q)] h0 (fun v h L => Fr n0 L ∧ Keep h0 h [a, t] ∧ ((∃ (t2 : Addr), (v = some (.ref a)) ∧ (t2 = t ∨ h0.size ≤ t2) ∧ (own_B Z h a t2 (cs ++ ds))))) := by
  refine own_metN (plainFor_of_name own_pn5) ?_
  intro p e s m below meth c s₁ G hx hby hml hZ hown hnm hret X0 e0 go fin
  obtain ⟨O2, P5, O4, R4, O_ad, O_hi, O_lo⟩ := id gl
  have N0 := Fr.nil n0
  refine go _ _ (fun _ k => castTop (own_ef_rm5 m a q) k) ?_
  show G (s₁.setTop (mkF m 0 #[r' a, r' q] []))
  refine go _ _ (fun _ k => XS.aloadN X0.here hx rfl (hb hby own_d5_0) rfl rfl (XS.aloadN X0.here hx rfl (hb hby own_d5_1) rfl rfl k)) ?_
  obtain ⟨rv101, T101, L101, X101, q101, st101⟩ := own_su X0 hx hZ (y := (⟨"java/lang/AbstractStringBuilder", "append", "(Ljava/lang/String;)Ljava/lang/AbstractStringBuilder;"⟩ : MethodName)) hown (ow hw 41 rfl) (own_same (z := (⟨"java/lang/AbstractStringBuilder", "ensureCapacityInternal", "(I)V"⟩ : MethodName)) (by decide) rfl (ow hw 64 rfl) (ow hw 42 rfl)) (ow hw 42 rfl) (ow hw 43 rfl) (by decide) (ow hw 45 rfl) (own_bkN (W := 0) (rm6 l Z a0 hw z0 fm0 gl [] a q t cs ds h0 n0 Z0 Xo Ba Sq hz gz_a gz_t) hZ (ow hw 45 rfl) (ow hw 26 rfl) (by decide) (by decide)) e0 Ba.1 (g := (mkF m 2 #[r' a, r' q] [(.ref q), (.ref a)])) rfl (by rw [hml]; rfl) (argsL := [(.ref q)]) (rest := []) rfl (lenOf own_pd27 rfl) rfl (by show 2 * 0 + _ ≤ _; exact Nat.le_of_eq rfl) (hb hby own_d5_2) (by decide) (by decide)
  obtain ⟨Nq101, Kp101, ⟨t2_102, rfl, p103, f104⟩⟩ := q101
  have N101 := Fr.app N0 Nq101
  refine go _ _ (st101) ?_
  show G (T101.setTop (mkF m 5 #[r' a, r' q] [(.ref a)]))
  refine go _ _ (fun _ k => XS.pop X101.here hx rfl (hb hby own_d5_5) rfl rfl (XS.aloadN X101.here hx rfl (hb hby own_d5_6) rfl rfl k)) ?_
  show G (T101.setTop (mkF m 7 #[r' a, r' q] [(.ref a)]))
  have K105 : Keep h0 T101.heap [a, t] := (Keep.refl h0 [a, t]).trans Kp101 (allS (Or.inl (List.mem_of_getElem? (i := 0) rfl)) (allS (Or.inl (List.mem_of_getElem? (i := 1) rfl)) all0))
  refine fin T101 _ _ _ (some (.ref a)) X101 (fun q => nomatch q) (by decide) (by decide) ⟨N101, K105, ⟨t2_102, rfl, p103, f104⟩⟩ _ (own_retA X101 hx hret rfl rfl rfl (hb hby own_d5_7))
theorem own_d14_0 : decode jdk_68_method_31_code 0 = .ok (.aload_n 0, 1) := by decide +kernel
theorem own_d14_1 : decode jdk_68_method_31_code 1 = .ok (.aload_n 0, 1) := by decide +kernel
theorem own_d14_2 : decode jdk_68_method_31_code 2 = .ok (.getfield 79, 3) := by decide +kernel
theorem own_d14_5 : decode jdk_68_method_31_code 5 = .ok (.iconst 1, 1) := by decide +kernel
theorem own_d14_6 : decode jdk_68_method_31_code 6 = .ok (.iadd, 1) := by decide +kernel
theorem own_d14_7 : decode jdk_68_method_31_code 7 = .ok (.invokevirtual 100, 3) := by decide +kernel
theorem own_d14_10 : decode jdk_68_method_31_code 10 = .ok (.aload_n 0, 1) := by decide +kernel
theorem own_d14_11 : decode jdk_68_method_31_code 11 = .ok (.invokevirtual 83, 3) := by decide +kernel
theorem own_d14_14 : decode jdk_68_method_31_code 14 = .ok (.ifCond .eq 31, 3) := by decide +kernel
theorem own_d14_17 : decode jdk_68_method_31_code 17 = .ok (.iload_n 1, 1) := by decide +kernel
theorem own_d14_18 : decode jdk_68_method_31_code 18 = .ok (.invokestatic 191, 3) := by decide +kernel
theorem own_d14_21 : decode jdk_68_method_31_code 21 = .ok (.ifCond .eq 24, 3) := by decide +kernel
theorem own_d14_24 : decode jdk_68_method_31_code 24 = .ok (.aload_n 0, 1) := by decide +kernel
theorem own_d14_25 : decode jdk_68_method_31_code 25 = .ok (.getfield 15, 3) := by decide +kernel
theorem own_d14_28 : decode jdk_68_method_31_code 28 = .ok (.aload_n 0, 1) := by decide +kernel
theorem own_d14_29 : decode jdk_68_method_31_code 29 = .ok (.dup, 1) := by decide +kernel
theorem own_d14_30 : decode jdk_68_method_31_code 30 = .ok (.getfield 79, 3) := by decide +kernel
theorem own_d14_33 : decode jdk_68_method_31_code 33 = .ok (.dup_x1, 1) := by decide +kernel
theorem own_d14_34 : decode jdk_68_method_31_code 34 = .ok (.iconst 1, 1) := by decide +kernel
theorem own_d14_35 : decode jdk_68_method_31_code 35 = .ok (.iadd, 1) := by decide +kernel
theorem own_d14_36 : decode jdk_68_method_31_code 36 = .ok (.putfield 79, 3) := by decide +kernel
theorem own_d14_39 : decode jdk_68_method_31_code 39 = .ok (.iload_n 1, 1) := by decide +kernel
theorem own_d14_40 : decode jdk_68_method_31_code 40 = .ok (.i2b, 1) := by decide +kernel
theorem own_d14_41 : decode jdk_68_method_31_code 41 = .ok (.bastore, 1) := by decide +kernel
theorem own_d14_42 : decode jdk_68_method_31_code 42 = .ok (.goto 33, 3) := by decide +kernel
theorem own_d14_75 : decode jdk_68_method_31_code 75 = .ok (.aload_n 0, 1) := by decide +kernel
theorem own_d14_76 : decode jdk_68_method_31_code 76 = .ok (.areturn, 1) := by decide +kernel
theorem own_d14_45 : decode jdk_68_method_31_code 45 = .ok (.aload_n 0, 1) := by decide +kernel
theorem own_d14_46 : decode jdk_68_method_31_code 46 = .ok (.invokevirtual 83, 3) := by decide +kernel
theorem own_d14_49 : decode jdk_68_method_31_code 49 = .ok (.ifCond .eq 7, 3) := by decide +kernel
theorem own_d14_56 : decode jdk_68_method_31_code 56 = .ok (.aload_n 0, 1) := by decide +kernel
theorem own_d14_57 : decode jdk_68_method_31_code 57 = .ok (.getfield 15, 3) := by decide +kernel
theorem own_d14_60 : decode jdk_68_method_31_code 60 = .ok (.aload_n 0, 1) := by decide +kernel
theorem own_d14_61 : decode jdk_68_method_31_code 61 = .ok (.dup, 1) := by decide +kernel
theorem own_d14_62 : decode jdk_68_method_31_code 62 = .ok (.getfield 79, 3) := by decide +kernel
theorem own_d14_65 : decode jdk_68_method_31_code 65 = .ok (.dup_x1, 1) := by decide +kernel
theorem own_d14_66 : decode jdk_68_method_31_code 66 = .ok (.iconst 1, 1) := by decide +kernel
theorem own_d14_67 : decode jdk_68_method_31_code 67 = .ok (.iadd, 1) := by decide +kernel
theorem own_d14_68 : decode jdk_68_method_31_code 68 = .ok (.putfield 79, 3) := by decide +kernel
theorem own_d14_71 : decode jdk_68_method_31_code 71 = .ok (.iload_n 1, 1) := by decide +kernel
theorem own_d14_72 : decode jdk_68_method_31_code 72 = .ok (.invokestatic 197, 3) := by decide +kernel
set_option maxHeartbeats 4000000 in
theorem own_ef_rm14 (m : MethodId) (x0 : Addr) (x1 : Int32) : entryFrame m #[(.ref x0), (.int x1)] 2 = mkF m 0 #[.val (.ref x0), .val (.int x1)] [] := by rfl
set_option maxRecDepth 65536 in
set_option maxHeartbeats 40000000 in
theorem rm14 (l : Launch) (Z : State) (a0 : Array Value) (hw : ∀ d ∈ tables_1, d.before a0 Z = true) (z0 : Int32) (fm0 : Value) (gl : own_Gl Z z0 fm0) (ws : List Jvm.Cond) (a : Addr) (q : Int32) (t : Addr) (cs : List Int32) (h0 : Heap) (n0 : Nat) (Z0 : n0 ≤ h0.size) (Xo : Old Z n0 h0) (Ba : own_B Z h0 a t cs) (h1 : ¬ q < (0 : Int32)) (h2 : ¬ (255 : Int32) < q) (hz1 : cs.length + 1 ≤ 15) (gz_a : n0 ≤ a) (gz_t : n0 ≤ t) :
    own_MetN l Z (⟨"java/lang/AbstractStringBuilder", "append", "(C)Ljava/lang/AbstractStringBuilder;"⟩ : MethodName) jdk_68_method_31_code 2 (some (.object "java/lang/AbstractStringBuilder")) ws ({ frames := 4, cells := 0, slots := 0, locals := 54 } : Room) #[(.ref a), (.int q)] h0 (fun v h L => Fr n0 L ∧ Keep h0 h [a, t] ∧ (((v = some (.ref a)) ∧ (own_B Z h a t (cs ++ [q]))))) := by
  refine own_metN (plainFor_of_name own_pn1) ?_
  intro p e s m below meth c s₁ G hx hby hml hZ hown hnm hret X0 e0 go fin
  obtain ⟨O2, P5, O4, R4, O_ad, O_hi, O_lo⟩ := id gl
  have N0 := Fr.nil n0
  refine go _ _ (fun _ k => castTop (own_ef_rm14 m a q) k) ?_
  show G (s₁.setTop (mkF m 0 #[r' a, i' q] []))
  obtain ⟨Ea101, Fv101, Fn101, Fm101, bc101, cb101⟩ := id Ba
  rcases cb101 with ⟨Fc101, b8101, kb101, At101⟩ | ⟨Fc101, kb101, At101⟩
  · refine go _ _ (fun _ k => XS.aloadN X0.here hx rfl (hb hby own_d14_0) rfl rfl (XS.aloadN X0.here hx rfl (hb hby own_d14_1) rfl rfl k)) ?_
    obtain ⟨T102, X102, e102, st102⟩ := getF X0 hx hZ hown (host := "") (Or.inl (ow hw 59 rfl)) Via.refl e0 Fn101 (g := (mkF m 2 #[r' a, i' q] [(.ref a), (.ref a)])) rfl rfl (hb hby own_d14_2)
    refine go _ _ (st102) ?_
    show G (T102.setTop (mkF m 5 #[r' a, i' q] [(.int (own_n cs)), (.ref a)]))
    refine go _ _ (fun _ k => XS.iconst X102.here hx rfl (hb hby own_d14_5) (XS.iadd X102.here hx rfl (hb hby own_d14_6) rfl k)) ?_
    obtain ⟨rv103, T103, L103, X103, q103, st103⟩ := own_pr X102 hx hZ (y := (⟨"java/lang/AbstractStringBuilder", "ensureCapacityInternal", "(I)V"⟩ : MethodName)) hown (ow hw 61 rfl) (ow hw 62 rfl) (ow hw 64 rfl) (ow hw 63 rfl) (ow hw 65 rfl) (by decide) (own_bkN (W := 0) (rmEc0 l Z a0 hw z0 fm0 gl [] a ((own_n cs) + (1 : Int32)) t kb101 (own_bs cs) h0 n0 Z0 Fv101 Fc101 At101 (own_cap1 (cs := cs) (by omega))) hZ (ow hw 65 rfl) (ow hw 26 rfl) (by decide) (by decide)) e102 Ea101 (g := (mkF m 7 #[r' a, i' q] [(.int ((own_n cs) + (1 : Int32))), (.ref a)])) rfl (by rw [hml]; rfl) (argsL := [(.int ((own_n cs) + (1 : Int32)))]) (rest := []) rfl (lenOf own_pd19 rfl) rfl (by show 2 * 0 + _ ≤ _; exact Nat.le_of_eq rfl) (hb hby own_d14_7) (by decide) (by decide)
    obtain ⟨Nq103, e103, rfl⟩ := q103
    have N103 := Fr.app N0 Nq103
    refine go _ _ (st103) ?_
    show G (T103.setTop (mkF m 10 #[r' a, i' q] []))
    refine go _ _ (fun _ k => XS.aloadN X103.here hx rfl (hb hby own_d14_10) rfl rfl k) ?_
    obtain ⟨rv104, T104, L104, X104, q104, st104⟩ := own_vi X103 hx hZ (y := (⟨"java/lang/AbstractStringBuilder", "isLatin1", "()Z"⟩ : MethodName)) (z := (⟨"java/lang/AbstractStringBuilder", "isLatin1", "()Z"⟩ : MethodName)) hown (ow hw 95 rfl) (ow hw 96 rfl) (ow hw 98 rfl) (ow hw 97 rfl) (Or.inl rfl) (by decide) (own_bkN (W := 0) (rmIb0 l Z a0 hw z0 fm0 gl [] a h0 n0 Z0 Xo Fc101) hZ (ow hw 99 rfl) (ow hw 26 rfl) (by decide) (by decide)) e103 Ea101 (g := (mkF m 11 #[r' a, i' q] [(.ref a)])) rfl (by rw [hml]; rfl) (argsL := []) (rest := []) rfl (lenOf own_pd8 rfl) rfl (by show 2 * 0 + _ ≤ _; exact Nat.le_of_eq rfl) (hb hby own_d14_11) (by decide) (by decide)
    obtain ⟨Nq104, e104, rfl⟩ := q104
    have N104 := Fr.app N103 Nq104
    refine go _ _ (st104) ?_
    show G (T104.setTop (mkF m 14 #[r' a, i' q] [(.int 1)]))
    refine go _ _ (fun _ k => XS.ifNo X104.here hx rfl (hb hby own_d14_14) rfl (by decide) k) ?_
    show G (T104.setTop (mkF m 17 #[r' a, i' q] []))
    refine go _ _ (fun _ k => XS.iloadN X104.here hx rfl (hb hby own_d14_17) rfl k) ?_
    obtain ⟨rv105, T105, L105, X105, q105, st105⟩ := own_st X104 hx hZ (y := (⟨"java/lang/StringLatin1", "canEncode", "(C)Z"⟩ : MethodName)) hown (ow hw 100 rfl) (ow hw 101 rfl) (ow hw 102 rfl) (ow hw 103 rfl) (by decide) (own_bkN (W := 0) (rm16 l Z a0 hw z0 fm0 gl [] q h0 n0 Z0) hZ (ow hw 103 rfl) (ow hw 102 rfl) (by decide) (by decide)) e104 (g := (mkF m 18 #[r' a, i' q] [(.int q)])) rfl (by rw [hml]; rfl) (argsL := [(.int q)]) (rest := []) rfl (lenOf own_pd11 rfl) rfl (by show 2 * 0 + _ ≤ _; exact Nat.le_of_eq rfl) (hb hby own_d14_18) (by decide) (by decide)
    obtain ⟨Nq105, e105, q105⟩ := q105
    have N105 := Fr.app N104 Nq105
    rcases q105 with ⟨rfl, p106⟩ | ⟨rfl, p107⟩
    · refine go _ _ (st105) ?_
      show G (T105.setTop (mkF m 21 #[r' a, i' q] [(.int 1)]))
      refine go _ _ (fun _ k => XS.ifNo X105.here hx rfl (hb hby own_d14_21) rfl (by decide) k) ?_
      show G (T105.setTop (mkF m 24 #[r' a, i' q] []))
      refine go _ _ (fun _ k => XS.aloadN X105.here hx rfl (hb hby own_d14_24) rfl rfl k) ?_
      obtain ⟨T108, X108, e108, st108⟩ := getF X105 hx hZ hown (host := "") (Or.inl (ow hw 32 rfl)) Via.refl e105 Fv101 (g := (mkF m 25 #[r' a, i' q] [(.ref a)])) rfl rfl (hb hby own_d14_25)
      refine go _ _ (st108) ?_
      show G (T108.setTop (mkF m 28 #[r' a, i' q] [(.ref t)]))
      refine go _ _ (fun _ k => XS.aloadN X108.here hx rfl (hb hby own_d14_28) rfl rfl (XS.dup X108.here hx rfl (hb hby own_d14_29) rfl rfl k)) ?_
      obtain ⟨T109, X109, e109, st109⟩ := getF X108 hx hZ hown (host := "") (Or.inl (ow hw 59 rfl)) Via.refl e108 Fn101 (g := (mkF m 30 #[r' a, i' q] [(.ref a), (.ref a), (.ref t)])) rfl rfl (hb hby own_d14_30)
      refine go _ _ (st109) ?_
      show G (T109.setTop (mkF m 33 #[r' a, i' q] [(.int (own_n cs)), (.ref a), (.ref t)]))
      refine go _ _ (fun _ k => XS.dupX1 X109.here hx rfl (hb hby own_d14_33) rfl rfl rfl (XS.iconst X109.here hx rfl (hb hby own_d14_34) (XS.iadd X109.here hx rfl (hb hby own_d14_35) rfl k))) ?_
      show G (T109.setTop (mkF m 36 #[r' a, i' q] [(.int ((own_n cs) + (1 : Int32))), (.ref a), (.int (own_n cs)), (.ref t)]))
      rw [(own_n1 cs q)]
      show G (T109.setTop (mkF m 36 #[r' a, i' q] [(.int (own_n (cs ++ [q]))), (.ref a), (.int (own_n cs)), (.ref t)]))
      obtain ⟨T110, h110, X110, e110, W110, st110⟩ := putF X109 hx hZ hown (host := "") (Or.inl (ow hw 59 rfl)) Via.refl e109 Fn101 Ea101 (Or.inl (ow hw 60 rfl)) (ow hw 17 rfl) (ty := .int) (by decide) rfl rfl (g := (mkF m 36 #[r' a, i' q] [(.int (own_n (cs ++ [q]))), (.ref a), (.int (own_n cs)), (.ref t)])) rfl rfl (hb hby own_d14_36)
      have N110 := Fr.snoc X110 N105 gz_a
      refine go _ _ (st110) ?_
      show G (T110.setTop (mkF m 39 #[r' a, i' q] [(.int (own_n cs)), (.ref t)]))
      refine go _ _ (fun _ k => XS.iloadN X110.here hx rfl (hb hby own_d14_39) rfl (XS.i2b X110.here hx rfl (hb hby own_d14_40) rfl k)) ?_
      have K112 : Keep h0 h110 [a] := (Keep.refl h0 [a]).wr W110 (Or.inl (List.mem_of_getElem? (i := 0) rfl))
      have ne113 : t ≠ a := Ne.symm (Exa.neArv Ea101 At101 (ow hw 17 rfl))
      have F114 : Arv Z h110 t kb101 .byte (16 : Int32) (own_bs cs) (.int (0 : Int32)) := (At101.keep K112 (ninS ne113 nin0))
      have Vp111 : Arv Z h110 t kb101 .byte (16 : Int32) (own_bs cs ++ [.int 0]) (.int 0) := F114.pad (pad_rep _ _ 1)
      obtain ⟨cl111, Ar111, q111, S111, M111, H111, U111⟩ := id Vp111
      obtain ⟨T111, h111, X111, e111, W111, st111⟩ := stB X110 hx hZ e110 Ar111 (j := (own_n cs)) (inb_of S111 ⟨own_n_nn (by omega), own_n_lt (k := 16) rfl (by omega) (by decide)⟩) (g := (mkF m 41 #[r' a, i' q] [(.int (q.toInt8.toInt32)), (.int (own_n cs)), (.ref t)])) rfl rfl (hb hby own_d14_41)
      have V111 := Arv.set Ar111 q111 S111 M111 H111 U111 (fits_nar_byte _) W111 cs.length (own_nN (by omega)).1 (by simp [own_bs_len])
      rw [own_i2bb, own_bset] at V111
      have N111 := Fr.snoc X111 N110 gz_t
      refine go _ _ (st111) ?_
      show G (T111.setTop (mkF m 42 #[r' a, i' q] []))
      refine go _ _ (fun _ k => XS.goto X111.here hx rfl (pc0 := 42) (pc' := 75) rfl (hb hby own_d14_42) (by decide) (by decide) k) ?_
      show G (T111.setTop (mkF m 75 #[r' a, i' q] []))
      refine go _ _ (fun _ k => XS.aloadN X111.here hx rfl (hb hby own_d14_75) rfl rfl k) ?_
      show G (T111.setTop (mkF m 76 #[r' a, i' q] [(.ref a)]))
      have K115 : Keep h0 h110 [a, t] := (Keep.refl h0 [a, t]).wr W110 (Or.inl (List.mem_of_getElem? (i := 0) rfl))
      have K116 : Keep h0 h111 [a, t] := K115.wr W111 (Or.inl (List.mem_of_getElem? (i := 1) rfl))
      have K117 : Keep h110 h111 [t] := (Keep.refl h110 [t]).wr W111 (Or.inl (List.mem_of_getElem? (i := 0) rfl))
      have F118 : Exa Z h111 a "java/lang/StringBuilder" := ((Ea101.wr W110).keep K117)
      have F119 : Fld Z h111 a "java/lang/AbstractStringBuilder" "value" "[B" (.ref t) := ((Fv101.other W110 (Or.inr (RoadKit.slot_ne (t := (.array .byte)) (t' := .int) (Or.inl (ow hw 33 rfl)) (Or.inl (ow hw 60 rfl)) (by decide) (by decide) (by decide)))).keep K117 (ninS (Ne.symm ne113) nin0))
      have F120 : Fld Z h111 a "java/lang/AbstractStringBuilder" "count" "I" (.int (own_n (cs ++ [q]))) := ((Fn101.same W110).keep K117 (ninS (Ne.symm ne113) nin0))
      have F121 : Fld Z h111 a "java/lang/AbstractStringBuilder" "maybeLatin1" "Z" (.int (0 : Int32)) := ((Fm101.other W110 (Or.inr (RoadKit.slot_ne (t := .boolean) (t' := .int) (Or.inl (ow hw 256 rfl)) (Or.inl (ow hw 60 rfl)) (by decide) (by decide) (by decide)))).keep K117 (ninS (Ne.symm ne113) nin0))
      have F122 : Fld Z h111 a "java/lang/AbstractStringBuilder" "coder" "B" (.int (0 : Int32)) := ((Fc101.other W110 (Or.inr (RoadKit.slot_ne (t := .byte) (t' := .int) (Or.inl (ow hw 35 rfl)) (Or.inl (ow hw 60 rfl)) (by decide) (by decide) (by decide)))).keep K117 (ninS (Ne.symm ne113) nin0))
      have Bx : own_B Z h111 a t (cs ++ [q]) := ⟨F118, F119, F120, F121, (own_bda bc101 (own_bd1 h1 (own_16 p106))), (Or.inl ⟨F122, (own_b8a b8101 (own_b81 p106)), _, V111⟩)⟩
      refine fin T111 _ _ _ (some (.ref a)) X111 (fun q => nomatch q) (by decide) (by decide) (by rw [e111]; exact ⟨N111, K116, ⟨rfl, Bx⟩⟩) _ (own_retA X111 hx hret rfl rfl rfl (hb hby own_d14_76))
    · exact absurd p107 h2
  · refine go _ _ (fun _ k => XS.aloadN X0.here hx rfl (hb hby own_d14_0) rfl rfl (XS.aloadN X0.here hx rfl (hb hby own_d14_1) rfl rfl k)) ?_
    obtain ⟨T123, X123, e123, st123⟩ := getF X0 hx hZ hown (host := "") (Or.inl (ow hw 59 rfl)) Via.refl e0 Fn101 (g := (mkF m 2 #[r' a, i' q] [(.ref a), (.ref a)])) rfl rfl (hb hby own_d14_2)
    refine go _ _ (st123) ?_
    show G (T123.setTop (mkF m 5 #[r' a, i' q] [(.int (own_n cs)), (.ref a)]))
    refine go _ _ (fun _ k => XS.iconst X123.here hx rfl (hb hby own_d14_5) (XS.iadd X123.here hx rfl (hb hby own_d14_6) rfl k)) ?_
    obtain ⟨rv124, T124, L124, X124, q124, st124⟩ := own_pr X123 hx hZ (y := (⟨"java/lang/AbstractStringBuilder", "ensureCapacityInternal", "(I)V"⟩ : MethodName)) hown (ow hw 61 rfl) (ow hw 62 rfl) (ow hw 64 rfl) (ow hw 63 rfl) (ow hw 65 rfl) (by decide) (own_bkN (W := 0) (rmEc1 l Z a0 hw z0 fm0 gl [] a ((own_n cs) + (1 : Int32)) t kb101 (own_u cs) h0 n0 Z0 Fv101 Fc101 At101 (own_cap1 (cs := cs) (by omega))) hZ (ow hw 65 rfl) (ow hw 26 rfl) (by decide) (by decide)) e123 Ea101 (g := (mkF m 7 #[r' a, i' q] [(.int ((own_n cs) + (1 : Int32))), (.ref a)])) rfl (by rw [hml]; rfl) (argsL := [(.int ((own_n cs) + (1 : Int32)))]) (rest := []) rfl (lenOf own_pd19 rfl) rfl (by show 2 * 0 + _ ≤ _; exact Nat.le_of_eq rfl) (hb hby own_d14_7) (by decide) (by decide)
    obtain ⟨Nq124, e124, rfl⟩ := q124
    have N124 := Fr.app N0 Nq124
    refine go _ _ (st124) ?_
    show G (T124.setTop (mkF m 10 #[r' a, i' q] []))
    refine go _ _ (fun _ k => XS.aloadN X124.here hx rfl (hb hby own_d14_10) rfl rfl k) ?_
    obtain ⟨rv125, T125, L125, X125, q125, st125⟩ := own_vi X124 hx hZ (y := (⟨"java/lang/AbstractStringBuilder", "isLatin1", "()Z"⟩ : MethodName)) (z := (⟨"java/lang/AbstractStringBuilder", "isLatin1", "()Z"⟩ : MethodName)) hown (ow hw 95 rfl) (ow hw 96 rfl) (ow hw 98 rfl) (ow hw 97 rfl) (Or.inl rfl) (by decide) (own_bkN (W := 0) (rmIb1 l Z a0 hw z0 fm0 gl [] a h0 n0 Z0 Xo Fc101) hZ (ow hw 99 rfl) (ow hw 26 rfl) (by decide) (by decide)) e124 Ea101 (g := (mkF m 11 #[r' a, i' q] [(.ref a)])) rfl (by rw [hml]; rfl) (argsL := []) (rest := []) rfl (lenOf own_pd8 rfl) rfl (by show 2 * 0 + _ ≤ _; exact Nat.le_of_eq rfl) (hb hby own_d14_11) (by decide) (by decide)
    obtain ⟨Nq125, e125, rfl⟩ := q125
    have N125 := Fr.app N124 Nq125
    refine go _ _ (st125) ?_
    show G (T125.setTop (mkF m 14 #[r' a, i' q] [(.int 0)]))
    refine go _ _ (fun _ k => XS.ifYes X125.here hx rfl (pc0 := 14) (pc' := 45) rfl (hb hby own_d14_14) rfl (by decide) (by decide) (by decide) k) ?_
    show G (T125.setTop (mkF m 45 #[r' a, i' q] []))
    refine go _ _ (fun _ k => XS.aloadN X125.here hx rfl (hb hby own_d14_45) rfl rfl k) ?_
    obtain ⟨rv126, T126, L126, X126, q126, st126⟩ := own_vi X125 hx hZ (y := (⟨"java/lang/AbstractStringBuilder", "isLatin1", "()Z"⟩ : MethodName)) (z := (⟨"java/lang/AbstractStringBuilder", "isLatin1", "()Z"⟩ : MethodName)) hown (ow hw 95 rfl) (ow hw 96 rfl) (ow hw 98 rfl) (ow hw 97 rfl) (Or.inl rfl) (by decide) (own_bkN (W := 0) (rmIb1 l Z a0 hw z0 fm0 gl [] a h0 n0 Z0 Xo Fc101) hZ (ow hw 99 rfl) (ow hw 26 rfl) (by decide) (by decide)) e125 Ea101 (g := (mkF m 46 #[r' a, i' q] [(.ref a)])) rfl (by rw [hml]; rfl) (argsL := []) (rest := []) rfl (lenOf own_pd8 rfl) rfl (by show 2 * 0 + _ ≤ _; exact Nat.le_of_eq rfl) (hb hby own_d14_46) (by decide) (by decide)
    obtain ⟨Nq126, e126, rfl⟩ := q126
    have N126 := Fr.app N125 Nq126
    refine go _ _ (st126) ?_
    show G (T126.setTop (mkF m 49 #[r' a, i' q] [(.int 0)]))
    refine go _ _ (fun _ k => XS.ifYes X126.here hx rfl (pc0 := 49) (pc' := 56) rfl (hb hby own_d14_49) rfl (by decide) (by decide) (by decide) k) ?_
    show G (T126.setTop (mkF m 56 #[r' a, i' q] []))
    refine go _ _ (fun _ k => XS.aloadN X126.here hx rfl (hb hby own_d14_56) rfl rfl k) ?_
    obtain ⟨T127, X127, e127, st127⟩ := getF X126 hx hZ hown (host := "") (Or.inl (ow hw 32 rfl)) Via.refl e126 Fv101 (g := (mkF m 57 #[r' a, i' q] [(.ref a)])) rfl rfl (hb hby own_d14_57)
    refine go _ _ (st127) ?_
    show G (T127.setTop (mkF m 60 #[r' a, i' q] [(.ref t)]))
    refine go _ _ (fun _ k => XS.aloadN X127.here hx rfl (hb hby own_d14_60) rfl rfl (XS.dup X127.here hx rfl (hb hby own_d14_61) rfl rfl k)) ?_
    obtain ⟨T128, X128, e128, st128⟩ := getF X127 hx hZ hown (host := "") (Or.inl (ow hw 59 rfl)) Via.refl e127 Fn101 (g := (mkF m 62 #[r' a, i' q] [(.ref a), (.ref a), (.ref t)])) rfl rfl (hb hby own_d14_62)
    refine go _ _ (st128) ?_
    show G (T128.setTop (mkF m 65 #[r' a, i' q] [(.int (own_n cs)), (.ref a), (.ref t)]))
    refine go _ _ (fun _ k => XS.dupX1 X128.here hx rfl (hb hby own_d14_65) rfl rfl rfl (XS.iconst X128.here hx rfl (hb hby own_d14_66) (XS.iadd X128.here hx rfl (hb hby own_d14_67) rfl k))) ?_
    show G (T128.setTop (mkF m 68 #[r' a, i' q] [(.int ((own_n cs) + (1 : Int32))), (.ref a), (.int (own_n cs)), (.ref t)]))
    rw [(own_n1 cs q)]
    show G (T128.setTop (mkF m 68 #[r' a, i' q] [(.int (own_n (cs ++ [q]))), (.ref a), (.int (own_n cs)), (.ref t)]))
    obtain ⟨T129, h129, X129, e129, W129, st129⟩ := putF X128 hx hZ hown (host := "") (Or.inl (ow hw 59 rfl)) Via.refl e128 Fn101 Ea101 (Or.inl (ow hw 60 rfl)) (ow hw 17 rfl) (ty := .int) (by decide) rfl rfl (g := (mkF m 68 #[r' a, i' q] [(.int (own_n (cs ++ [q]))), (.ref a), (.int (own_n cs)), (.ref t)])) rfl rfl (hb hby own_d14_68)
    have N129 := Fr.snoc X129 N126 gz_a
    refine go _ _ (st129) ?_
    show G (T129.setTop (mkF m 71 #[r' a, i' q] [(.int (own_n cs)), (.ref t)]))
    refine go _ _ (fun _ k => XS.iloadN X129.here hx rfl (hb hby own_d14_71) rfl k) ?_
    have K131 : Keep h0 h129 [a] := (Keep.refl h0 [a]).wr W129 (Or.inl (List.mem_of_getElem? (i := 0) rfl))
    have F132 : Old Z n0 h129 := (Xo.keep K131 (allS gz_a all0))
    have ne133 : t ≠ a := Ne.symm (Exa.neArv Ea101 At101 (ow hw 17 rfl))
    have F134 : Arv Z h129 t kb101 .byte (32 : Int32) (own_u cs) (.int (0 : Int32)) := (At101.keep K131 (ninS ne133 nin0))
    have Z135 : h0.size ≤ h129.size := (Keep.of_wr W129).1
    obtain ⟨rv130, T130, L130, X130, q130, st130⟩ := own_st X129 hx hZ (y := (⟨"java/lang/StringUTF16", "putCharSB", "([BII)V"⟩ : MethodName)) hown (ow hw 247 rfl) (ow hw 248 rfl) (ow hw 196 rfl) (ow hw 249 rfl) (by decide) (own_bkN (W := 0) (rm54 l Z a0 hw z0 fm0 gl [] t (own_n cs) q kb101 cs h129 n0 (Nat.le_trans Z0 Z135) F132 F134 rfl (by omega) gz_t) hZ (ow hw 249 rfl) (ow hw 196 rfl) (by decide) (by decide)) e129 (g := (mkF m 72 #[r' a, i' q] [(.int q), (.int (own_n cs)), (.ref t)])) rfl (by rw [hml]; rfl) (argsL := [(.ref t), (.int (own_n cs)), (.int q)]) (rest := []) rfl (lenOf own_pd6 rfl) rfl (by show 2 * 0 + _ ≤ _; exact Nat.le_of_eq rfl) (hb hby own_d14_72) (by decide) (by decide)
    obtain ⟨Nq130, Kp130, ⟨rfl, f136⟩⟩ := q130
    have N130 := Fr.app N129 Nq130
    refine go _ _ (st130) ?_
    show G (T130.setTop (mkF m 75 #[r' a, i' q] []))
    refine go _ _ (fun _ k => XS.aloadN X130.here hx rfl (hb hby own_d14_75) rfl rfl k) ?_
    show G (T130.setTop (mkF m 76 #[r' a, i' q] [(.ref a)]))
    have K137 : Keep h0 h129 [a, t] := (Keep.refl h0 [a, t]).wr W129 (Or.inl (List.mem_of_getElem? (i := 0) rfl))
    have K138 : Keep h0 T130.heap [a, t] := K137.trans Kp130 (allS (Or.inl (List.mem_of_getElem? (i := 1) rfl)) all0)
    have K139 : Keep h129 T130.heap [t] := (Keep.refl h129 [t]).trans Kp130 (allS (Or.inl (List.mem_of_getElem? (i := 0) rfl)) all0)
    have F140 : Exa Z T130.heap a "java/lang/StringBuilder" := ((Ea101.wr W129).keep K139)
    have F141 : Fld Z T130.heap a "java/lang/AbstractStringBuilder" "value" "[B" (.ref t) := ((Fv101.other W129 (Or.inr (RoadKit.slot_ne (t := (.array .byte)) (t' := .int) (Or.inl (ow hw 33 rfl)) (Or.inl (ow hw 60 rfl)) (by decide) (by decide) (by decide)))).keep K139 (ninS (Ne.symm ne133) nin0))
    have F142 : Fld Z T130.heap a "java/lang/AbstractStringBuilder" "count" "I" (.int (own_n (cs ++ [q]))) := ((Fn101.same W129).keep K139 (ninS (Ne.symm ne133) nin0))
    have F143 : Fld Z T130.heap a "java/lang/AbstractStringBuilder" "maybeLatin1" "Z" (.int (0 : Int32)) := ((Fm101.other W129 (Or.inr (RoadKit.slot_ne (t := .boolean) (t' := .int) (Or.inl (ow hw 256 rfl)) (Or.inl (ow hw 60 rfl)) (by decide) (by decide) (by decide)))).keep K139 (ninS (Ne.symm ne133) nin0))
    have F144 : Fld Z T130.heap a "java/lang/AbstractStringBuilder" "coder" "B" (.int (1 : Int32)) := ((Fc101.other W129 (Or.inr (RoadKit.slot_ne (t := .byte) (t' := .int) (Or.inl (ow hw 35 rfl)) (Or.inl (ow hw 60 rfl)) (by decide) (by decide) (by decide)))).keep K139 (ninS (Ne.symm ne133) nin0))
    have Bx : own_B Z T130.heap a t (cs ++ [q]) := ⟨F140, F141, F142, F143, (own_bda bc101 (own_bd1 h1 (own_16 h2))), (Or.inr ⟨F144, _, f136⟩)⟩
    refine fin T130 _ _ _ (some (.ref a)) X130 (fun q => nomatch q) (by decide) (by decide) ⟨N130, K138, ⟨rfl, Bx⟩⟩ _ (own_retA X130 hx hret rfl rfl rfl (hb hby own_d14_76))
theorem own_d13_0 : decode jdk_67_method_14_code 0 = .ok (.aload_n 0, 1) := by decide +kernel
theorem own_d13_1 : decode jdk_67_method_14_code 1 = .ok (.iload_n 1, 1) := by decide +kernel
theorem own_pd28 : parseMethodDescriptor "(C)Ljava/lang/AbstractStringBuilder;" = some ⟨[.char], some (.object "java/lang/AbstractStringBuilder")⟩ := by decide +kernel
theorem own_d13_2 : decode jdk_67_method_14_code 2 = .ok (.invokespecial 50, 3) := by decide +kernel
theorem own_d13_5 : decode jdk_67_method_14_code 5 = .ok (.pop, 1) := by decide +kernel
theorem own_d13_6 : decode jdk_67_method_14_code 6 = .ok (.aload_n 0, 1) := by decide +kernel
theorem own_d13_7 : decode jdk_67_method_14_code 7 = .ok (.areturn, 1) := by decide +kernel
set_option maxHeartbeats 4000000 in
theorem own_ef_rm13 (m : MethodId) (x0 : Addr) (x1 : Int32) : entryFrame m #[(.ref x0), (.int x1)] 2 = mkF m 0 #[.val (.ref x0), .val (.int x1)] [] := by rfl
set_option maxRecDepth 65536 in
set_option maxHeartbeats 40000000 in
theorem rm13 (l : Launch) (Z : State) (a0 : Array Value) (hw : ∀ d ∈ tables_1, d.before a0 Z = true) (z0 : Int32) (fm0 : Value) (gl : own_Gl Z z0 fm0) (ws : List Jvm.Cond) (a : Addr) (q : Int32) (t : Addr) (cs : List Int32) (h0 : Heap) (n0 : Nat) (Z0 : n0 ≤ h0.size) (Xo : Old Z n0 h0) (Ba : own_B Z h0 a t cs) (h1 : ¬ q < (0 : Int32)) (h2 : ¬ (255 : Int32) < q) (hz1 : cs.length + 1 ≤ 15) (gz_a : n0 ≤ a) (gz_t : n0 ≤ t) :
    own_MetN l Z (⟨"java/lang/StringBuilder", "append", "(C)Ljava/lang/StringBuilder;"⟩ : MethodName) jdk_67_method_14_code 2 (some (.object "java/lang/StringBuilder")) ws ({ frames := 5, cells := 0, slots := 0, locals := 67 } : Room) #[(.ref a), (.int q)] h0 (fun v h L => Fr n0 L ∧ Keep h0 h [a, t] ∧ (((v = some (.ref a)) ∧ (own_B Z h a t (cs ++ [q]))))) := by
  refine own_metN (plainFor_of_name own_pn5) ?_
  intro p e s m below meth c s₁ G hx hby hml hZ hown hnm hret X0 e0 go fin
  obtain ⟨O2, P5, O4, R4, O_ad, O_hi, O_lo⟩ := id gl
  have N0 := Fr.nil n0
  refine go _ _ (fun _ k => castTop (own_ef_rm13 m a q) k) ?_
  show G (s₁.setTop (mkF m 0 #[r' a, i' q] []))
  refine go _ _ (fun _ k => XS.aloadN X0.here hx rfl (hb hby own_d13_0) rfl rfl (XS.iloadN X0.here hx rfl (hb hby own_d13_1) rfl k)) ?_
  obtain ⟨rv101, T101, L101, X101, q101, st101⟩ := own_su X0 hx hZ (y := (⟨"java/lang/AbstractStringBuilder", "append", "(C)Ljava/lang/AbstractStringBuilder;"⟩ : MethodName)) hown (ow hw 91 rfl) (own_same (z := (⟨"java/lang/AbstractStringBuilder", "ensureCapacityInternal", "(I)V"⟩ : MethodName)) (by decide) rfl (ow hw 64 rfl) (ow hw 92 rfl)) (ow hw 92 rfl) (ow hw 43 rfl) (by decide) (ow hw 94 rfl) (own_bkN (W := 0) (rm14 l Z a0 hw z0 fm0 gl [] a q t cs h0 n0 Z0 Xo Ba h1 h2 hz1 gz_a gz_t) hZ (ow hw 94 rfl) (ow hw 26 rfl) (by decide) (by decide)) e0 Ba.1 (g := (mkF m 2 #[r' a, i' q] [(.int q), (.ref a)])) rfl (by rw [hml]; rfl) (argsL := [(.int q)]) (rest := []) rfl (lenOf own_pd28 rfl) rfl (by show 2 * 0 + _ ≤ _; exact Nat.le_of_eq rfl) (hb hby own_d13_2) (by decide) (by decide)
  obtain ⟨Nq101, Kp101, ⟨rfl, f102⟩⟩ := q101
  have N101 := Fr.app N0 Nq101
  refine go _ _ (st101) ?_
  show G (T101.setTop (mkF m 5 #[r' a, i' q] [(.ref a)]))
  refine go _ _ (fun _ k => XS.pop X101.here hx rfl (hb hby own_d13_5) rfl rfl (XS.aloadN X101.here hx rfl (hb hby own_d13_6) rfl rfl k)) ?_
  show G (T101.setTop (mkF m 7 #[r' a, i' q] [(.ref a)]))
  have K103 : Keep h0 T101.heap [a, t] := (Keep.refl h0 [a, t]).trans Kp101 (allS (Or.inl (List.mem_of_getElem? (i := 0) rfl)) (allS (Or.inl (List.mem_of_getElem? (i := 1) rfl)) all0))
  refine fin T101 _ _ _ (some (.ref a)) X101 (fun q => nomatch q) (by decide) (by decide) ⟨N101, K103, ⟨rfl, f102⟩⟩ _ (own_retA X101 hx hret rfl rfl rfl (hb hby own_d13_7))
theorem own_pn6 : plainName "java/util/Arrays" = true := by decide +kernel
theorem own_d25_0 : decode jdk_65_method_131_code 0 = .ok (.iload_n 1, 1) := by decide +kernel
theorem own_d25_1 : decode jdk_65_method_131_code 1 = .ok (.iload_n 0, 1) := by decide +kernel
theorem own_d25_2 : decode jdk_65_method_131_code 2 = .ok (.if_icmp .ge 35, 3) := by decide +kernel
theorem own_d25_37 : decode jdk_65_method_131_code 37 = .ok (.return_, 1) := by decide +kernel
set_option maxHeartbeats 4000000 in
theorem own_ef_rm25 (m : MethodId) (x0 : Int32) (x1 : Int32) : entryFrame m #[(.int x0), (.int x1)] 2 = mkF m 0 #[.val (.int x0), .val (.int x1)] [] := by rfl
set_option maxRecDepth 65536 in
set_option maxHeartbeats 40000000 in
theorem rm25 (l : Launch) (Z : State) (a0 : Array Value) (hw : ∀ d ∈ tables_1, d.before a0 Z = true) (z0 : Int32) (fm0 : Value) (gl : own_Gl Z z0 fm0) (ws : List Jvm.Cond) (y : Int32) (h0 : Heap) (n0 : Nat) (Z0 : n0 ≤ h0.size) (hy : ¬ y < (0 : Int32)) :
    own_MetN l Z (⟨"java/util/Arrays", "checkLength", "(II)V"⟩ : MethodName) jdk_65_method_131_code 2 none ws ({ frames := 0, cells := 0, slots := 0, locals := 0 } : Room) #[(.int (0 : Int32)), (.int y)] h0 (fun v h L => Fr n0 L ∧ h = h0 ∧ (((v = none)))) := by
  refine own_metN (plainFor_of_name own_pn6) ?_
  intro p e s m below meth c s₁ G hx hby hml hZ hown hnm hret X0 e0 go fin
  obtain ⟨O2, P5, O4, R4, O_ad, O_hi, O_lo⟩ := id gl
  have N0 := Fr.nil n0
  refine go _ _ (fun _ k => castTop (own_ef_rm25 m (0 : Int32) y) k) ?_
  show G (s₁.setTop (mkF m 0 #[i' 0, i' y] []))
  refine go _ _ (fun _ k => XS.iloadN X0.here hx rfl (hb hby own_d25_0) rfl (XS.iloadN X0.here hx rfl (hb hby own_d25_1) rfl k)) ?_
  show G (s₁.setTop (mkF m 2 #[i' 0, i' y] [(.int 0), (.int y)]))
  refine go _ _ (fun _ k => XS.icmpYes X0.here hx rfl (pc0 := 2) (pc' := 37) rfl (hb hby own_d25_2) rfl (flt hy).2.1 (by decide) (by decide) k) ?_
  show G (s₁.setTop (mkF m 37 #[i' 0, i' y] []))
  refine fin s₁ _ _ _ none X0 (fun _ => rfl) (by decide) (by decide) (by rw [e0]; exact ⟨N0, rfl, rfl⟩) _ (own_retV X0 hx hret (hb hby own_d25_37))
theorem own_d26_0 : decode jdk_29_method_69_code 0 = .ok (.iload_n 0, 1) := by decide +kernel
theorem own_d26_1 : decode jdk_29_method_69_code 1 = .ok (.iload_n 1, 1) := by decide +kernel
theorem own_d26_2 : decode jdk_29_method_69_code 2 = .ok (.if_icmp .gt 7, 3) := by decide +kernel
theorem own_d26_9 : decode jdk_29_method_69_code 9 = .ok (.iload_n 1, 1) := by decide +kernel
theorem own_d26_10 : decode jdk_29_method_69_code 10 = .ok (.ireturn, 1) := by decide +kernel
theorem own_d26_5 : decode jdk_29_method_69_code 5 = .ok (.iload_n 0, 1) := by decide +kernel
theorem own_d26_6 : decode jdk_29_method_69_code 6 = .ok (.goto 4, 3) := by decide +kernel
set_option maxHeartbeats 4000000 in
theorem own_ef_rm26 (m : MethodId) (x0 : Int32) (x1 : Int32) : entryFrame m #[(.int x0), (.int x1)] 2 = mkF m 0 #[.val (.int x0), .val (.int x1)] [] := by rfl
set_option maxRecDepth 65536 in
set_option maxHeartbeats 40000000 in
theorem rm26 (l : Launch) (Z : State) (a0 : Array Value) (hw : ∀ d ∈ tables_1, d.before a0 Z = true) (z0 : Int32) (fm0 : Value) (gl : own_Gl Z z0 fm0) (ws : List Jvm.Cond) (x : Int32) (y : Int32) (h0 : Heap) (n0 : Nat) (Z0 : n0 ≤ h0.size) :
    own_MetN l Z (⟨"java/lang/Math", "min", "(II)I"⟩ : MethodName) jdk_29_method_69_code 2 (some .int) ws ({ frames := 0, cells := 0, slots := 0, locals := 0 } : Room) #[(.int x), (.int y)] h0 (fun v h L => Fr n0 L ∧ h = h0 ∧ (((v = some (.int y)) ∧ (y < x)) ∨ ((v = some (.int x)) ∧ (¬ y < x)))) := by
  refine own_metN (Free.JP.mathPlain rfl (by decide)) ?_
  intro p e s m below meth c s₁ G hx hby hml hZ hown hnm hret X0 e0 go fin
  obtain ⟨O2, P5, O4, R4, O_ad, O_hi, O_lo⟩ := id gl
  have N0 := Fr.nil n0
  refine go _ _ (fun _ k => castTop (own_ef_rm26 m x y) k) ?_
  show G (s₁.setTop (mkF m 0 #[i' x, i' y] []))
  refine go _ _ (fun _ k => XS.iloadN X0.here hx rfl (hb hby own_d26_0) rfl (XS.iloadN X0.here hx rfl (hb hby own_d26_1) rfl k)) ?_
  show G (s₁.setTop (mkF m 2 #[i' x, i' y] [(.int y), (.int x)]))
  by_cases hc2_101 : y < x
  · refine go _ _ (fun _ k => XS.icmpYes X0.here hx rfl (pc0 := 2) (pc' := 9) rfl (hb hby own_d26_2) rfl (tlt hc2_101).2.2.1 (by decide) (by decide) k) ?_
    show G (s₁.setTop (mkF m 9 #[i' x, i' y] []))
    refine go _ _ (fun _ k => XS.iloadN X0.here hx rfl (hb hby own_d26_9) rfl k) ?_
    show G (s₁.setTop (mkF m 10 #[i' x, i' y] [(.int y)]))
    refine fin s₁ _ _ _ (some (.int y)) X0 (fun q => nomatch q) (by decide) (by decide) (by rw [e0]; exact ⟨N0, rfl, (Or.inl ⟨rfl, hc2_101⟩)⟩) _ (own_retI X0 hx hret (hb hby own_d26_10))
  · refine go _ _ (fun _ k => XS.icmpNo X0.here hx rfl (hb hby own_d26_2) rfl (flt hc2_101).2.2.1 k) ?_
    show G (s₁.setTop (mkF m 5 #[i' x, i' y] []))
    refine go _ _ (fun _ k => XS.iloadN X0.here hx rfl (hb hby own_d26_5) rfl k) ?_
    show G (s₁.setTop (mkF m 6 #[i' x, i' y] [(.int x)]))
    refine go _ _ (fun _ k => XS.goto X0.here hx rfl (pc0 := 6) (pc' := 10) rfl (hb hby own_d26_6) (by decide) (by decide) k) ?_
    show G (s₁.setTop (mkF m 10 #[i' x, i' y] [(.int x)]))
    refine fin s₁ _ _ _ (some (.int x)) X0 (fun q => nomatch q) (by decide) (by decide) (by rw [e0]; exact ⟨N0, rfl, (Or.inr ⟨rfl, hc2_101⟩)⟩) _ (own_retI X0 hx hret (hb hby own_d26_10))
theorem own_d24_0 : decode jdk_65_method_133_code 0 = .ok (.iload_n 1, 1) := by decide +kernel
theorem own_d24_1 : decode jdk_65_method_133_code 1 = .ok (.iload_n 2, 1) := by decide +kernel
theorem own_d24_2 : decode jdk_65_method_133_code 2 = .ok (.invokestatic 343, 3) := by decide +kernel
theorem own_d24_5 : decode jdk_65_method_133_code 5 = .ok (.iload_n 2, 1) := by decide +kernel
theorem own_d24_6 : decode jdk_65_method_133_code 6 = .ok (.iload_n 1, 1) := by decide +kernel
theorem own_d24_7 : decode jdk_65_method_133_code 7 = .ok (.isub, 1) := by decide +kernel
theorem own_d24_8 : decode jdk_65_method_133_code 8 = .ok (.istore_n 3, 1) := by decide +kernel
theorem own_d24_9 : decode jdk_65_method_133_code 9 = .ok (.iload_n 3, 1) := by decide +kernel
theorem own_d24_10 : decode jdk_65_method_133_code 10 = .ok (.newarray .byte, 2) := by decide +kernel
theorem own_d24_12 : decode jdk_65_method_133_code 12 = .ok (.astore 4, 2) := by decide +kernel
theorem own_d24_14 : decode jdk_65_method_133_code 14 = .ok (.aload_n 0, 1) := by decide +kernel
theorem own_d24_15 : decode jdk_65_method_133_code 15 = .ok (.iload_n 1, 1) := by decide +kernel
theorem own_d24_16 : decode jdk_65_method_133_code 16 = .ok (.aload 4, 2) := by decide +kernel
theorem own_d24_18 : decode jdk_65_method_133_code 18 = .ok (.iconst 0, 1) := by decide +kernel
theorem own_d24_19 : decode jdk_65_method_133_code 19 = .ok (.aload_n 0, 1) := by decide +kernel
theorem own_d24_20 : decode jdk_65_method_133_code 20 = .ok (.arraylength, 1) := by decide +kernel
theorem own_d24_21 : decode jdk_65_method_133_code 21 = .ok (.iload_n 1, 1) := by decide +kernel
theorem own_d24_22 : decode jdk_65_method_133_code 22 = .ok (.isub, 1) := by decide +kernel
theorem own_d24_23 : decode jdk_65_method_133_code 23 = .ok (.iload_n 3, 1) := by decide +kernel
theorem own_pd29 : parseMethodDescriptor "(II)I" = some ⟨[.int, .int], some .int⟩ := by decide +kernel
theorem own_d24_24 : decode jdk_65_method_133_code 24 = .ok (.invokestatic 304, 3) := by decide +kernel
theorem own_d24_27 : decode jdk_65_method_133_code 27 = .ok (.invokestatic 150, 3) := by decide +kernel
theorem own_d24_30 : decode jdk_65_method_133_code 30 = .ok (.aload 4, 2) := by decide +kernel
theorem own_d24_32 : decode jdk_65_method_133_code 32 = .ok (.areturn, 1) := by decide +kernel
set_option maxHeartbeats 4000000 in
theorem own_ef_rm24 (m : MethodId) (x0 : Addr) (x1 : Int32) (x2 : Int32) : entryFrame m #[(.ref x0), (.int x1), (.int x2)] 5 = mkF m 0 #[.val (.ref x0), .val (.int x1), .val (.int x2), .unset, .unset] [] := by rfl
set_option maxRecDepth 65536 in
set_option maxHeartbeats 40000000 in
theorem rm24 (l : Launch) (Z : State) (a0 : Array Value) (hw : ∀ d ∈ tables_1, d.before a0 Z = true) (z0 : Int32) (fm0 : Value) (gl : own_Gl Z z0 fm0) (ws : List Jvm.Cond) (t : Addr) (y : Int32) (kb : ClassId) (zt : Int32) (vs : List Value) (h0 : Heap) (n0 : Nat) (Z0 : n0 ≤ h0.size) (At : Arv Z h0 t kb .byte zt vs (.int (0 : Int32))) (hy : y.toNatClampNeg = vs.length) (hy0 : ¬ y < (0 : Int32)) (hlt : y < zt) (hcap : vs.length ≤ 32) :
    own_MetN l Z (⟨"java/util/Arrays", "copyOfRangeByte", "([BII)[B"⟩ : MethodName) jdk_65_method_133_code 5 (some (.array .byte)) ws ({ frames := 1, cells := 1, slots := 32, locals := 27 } : Room) #[(.ref t), (.int (0 : Int32)), (.int y)] h0 (fun v h L => Fr n0 L ∧ Keep h0 h [] ∧ ((∃ (b : Addr) (kb2 : ClassId), (v = some (.ref b)) ∧ (h0.size ≤ b) ∧ (Arv Z h b kb2 .byte y vs (.int (0 : Int32)))))) := by
  refine own_metN (plainFor_of_name own_pn6) ?_
  intro p e s m below meth c s₁ G hx hby hml hZ hown hnm hret X0 e0 go fin
  obtain ⟨O2, P5, O4, R4, O_ad, O_hi, O_lo⟩ := id gl
  have N0 := Fr.nil n0
  refine go _ _ (fun _ k => castTop (own_ef_rm24 m t (0 : Int32) y) k) ?_
  show G (s₁.setTop (mkF m 0 #[r' t, i' 0, i' y, u', u'] []))
  refine go _ _ (fun _ k => XS.iloadN X0.here hx rfl (hb hby own_d24_0) rfl (XS.iloadN X0.here hx rfl (hb hby own_d24_1) rfl k)) ?_
  obtain ⟨rv101, T101, L101, X101, q101, st101⟩ := own_st X0 hx hZ (y := (⟨"java/util/Arrays", "checkLength", "(II)V"⟩ : MethodName)) hown (ow hw 139 rfl) (ow hw 140 rfl) (ow hw 134 rfl) (ow hw 141 rfl) (by decide) (own_bkN (W := 0) (rm25 l Z a0 hw z0 fm0 gl [] y h0 n0 Z0 hy0) hZ (ow hw 141 rfl) (ow hw 134 rfl) (by decide) (by decide)) e0 (g := (mkF m 2 #[r' t, i' 0, i' y, u', u'] [(.int y), (.int 0)])) rfl (by rw [hml]; rfl) (argsL := [(.int (0 : Int32)), (.int y)]) (rest := []) rfl (lenOf own_pd2 rfl) rfl (by show 2 * 0 + _ ≤ _; exact Nat.le_of_eq rfl) (hb hby own_d24_2) (by decide) (by decide)
  obtain ⟨Nq101, e101, rfl⟩ := q101
  have N101 := Fr.app N0 Nq101
  refine go _ _ (st101) ?_
  show G (T101.setTop (mkF m 5 #[r' t, i' 0, i' y, u', u'] []))
  refine go _ _ (fun _ k => XS.iloadN X101.here hx rfl (hb hby own_d24_5) rfl (XS.iloadN X101.here hx rfl (hb hby own_d24_6) rfl (XS.isub X101.here hx rfl (hb hby own_d24_7) rfl k))) ?_
  show G (T101.setTop (mkF m 8 #[r' t, i' 0, i' y, u', u'] [(.int (y - (0 : Int32)))]))
  rw [Int32.sub_zero]
  show G (T101.setTop (mkF m 8 #[r' t, i' 0, i' y, u', u'] [(.int y)]))
  refine go _ _ (fun _ k => XS.istoreN X101.here hx rfl (hb hby own_d24_8) rfl (l' := #[r' t, i' 0, i' y, i' y, u']) rfl (XS.iloadN X101.here hx rfl (hb hby own_d24_9) rfl k)) ?_
  obtain ⟨T102, h102, k102, X102, e102, E102, A102, st102⟩ := newP X101 hx hZ (ow hw 7 rfl) e101 (g := (mkF m 10 #[r' t, i' 0, i' y, i' y, u'] [(.int y)])) rfl (hb hby own_d24_10) rfl hy0 (cap := 32) (by rw [hy]; exact hcap) (by decide) (by decide) (by decide)
  obtain ⟨b102, g102⟩ : ∃ z, z = h0.size := ⟨_, rfl⟩
  rw [← g102] at A102 st102
  have V102 : Arv Z h102 b102 k102 .byte y ([] : List Value) (.int (0 : Int32)) := Arv.new A102 hy0
  refine go _ _ (st102) ?_
  show G (T102.setTop (mkF m 12 #[r' t, i' 0, i' y, i' y, u'] [(.ref b102)]))
  refine go _ _ (fun _ k => XS.astore X102.here hx rfl (hb hby own_d24_12) rfl rfl (l' := #[r' t, i' 0, i' y, i' y, r' b102]) rfl (XS.aloadN X102.here hx rfl (hb hby own_d24_14) rfl rfl (XS.iloadN X102.here hx rfl (hb hby own_d24_15) rfl (XS.aload X102.here hx rfl (hb hby own_d24_16) rfl rfl (XS.iconst X102.here hx rfl (hb hby own_d24_18) (XS.aloadN X102.here hx rfl (hb hby own_d24_19) rfl rfl k)))))) ?_
  show G (T102.setTop (mkF m 20 #[r' t, i' 0, i' y, i' y, r' b102] [(.ref t), (.int 0), (.ref b102), (.int 0), (.ref t)]))
  have K104 : Keep h0 h102 [] := (Keep.refl h0 []).ext E102
  have F105 : Arv Z h102 t kb .byte zt vs (.int (0 : Int32)) := (At.keep K104 nin0)
  obtain ⟨cl103, Ar103, q103, S103, M103, H103, U103⟩ := id F105
  refine go _ _ (fun _ k => X102.arraylength hx (by rw [e102]; exact Ar103.1) (State.isArrayOf_alike hZ.alike Ar103.2.1) (g := (mkF m 20 #[r' t, i' 0, i' y, i' y, r' b102] [(.ref t), (.int 0), (.ref b102), (.int 0), (.ref t)])) rfl rfl (hb hby own_d24_20) _ k) ?_
  show G (T102.setTop (mkF m 21 #[r' t, i' 0, i' y, i' y, r' b102] [(.int cl103.slots.size.toInt32), (.int 0), (.ref b102), (.int 0), (.ref t)]))
  rw [len_of S103 M103]
  show G (T102.setTop (mkF m 21 #[r' t, i' 0, i' y, i' y, r' b102] [(.int zt), (.int 0), (.ref b102), (.int 0), (.ref t)]))
  refine go _ _ (fun _ k => XS.iloadN X102.here hx rfl (hb hby own_d24_21) rfl (XS.isub X102.here hx rfl (hb hby own_d24_22) rfl k)) ?_
  show G (T102.setTop (mkF m 23 #[r' t, i' 0, i' y, i' y, r' b102] [(.int (zt - (0 : Int32))), (.int 0), (.ref b102), (.int 0), (.ref t)]))
  rw [Int32.sub_zero]
  show G (T102.setTop (mkF m 23 #[r' t, i' 0, i' y, i' y, r' b102] [(.int zt), (.int 0), (.ref b102), (.int 0), (.ref t)]))
  refine go _ _ (fun _ k => XS.iloadN X102.here hx rfl (hb hby own_d24_23) rfl k) ?_
  have Z107 : h0.size ≤ h102.size := E102.1
  obtain ⟨rv106, T106, L106, X106, q106, st106⟩ := own_st X102 hx hZ (y := (⟨"java/lang/Math", "min", "(II)I"⟩ : MethodName)) hown (ow hw 142 rfl) (ow hw 143 rfl) (ow hw 144 rfl) (ow hw 145 rfl) (by decide) (own_bkN (W := 4) (rm26 l Z a0 hw z0 fm0 gl [] zt y h102 n0 (Nat.le_trans Z0 Z107)) hZ (ow hw 145 rfl) (ow hw 144 rfl) (by decide) (by decide)) e102 (g := (mkF m 24 #[r' t, i' 0, i' y, i' y, r' b102] [(.int y), (.int zt), (.int 0), (.ref b102), (.int 0), (.ref t)])) rfl (by rw [hml]; rfl) (argsL := [(.int zt), (.int y)]) (rest := [(.int (0 : Int32)), (.ref b102), (.int (0 : Int32)), (.ref t)]) rfl (lenOf own_pd29 rfl) rfl (by show 2 * 0 + _ ≤ _; exact Nat.le_of_eq rfl) (hb hby own_d24_24) (by decide) (by decide)
  obtain ⟨Nq106, e106, q106⟩ := q106
  have N106 := Fr.app N101 Nq106
  rcases q106 with ⟨rfl, p108⟩ | ⟨rfl, p109⟩
  · refine go _ _ (st106) ?_
    obtain ⟨T110, h110, L110, X110, e110, N110, Kp110, V110, st110⟩ := own_cpv X106 hx hZ hown (ow hw 146 rfl) (ow hw 85 rfl) (ow hw 83 rfl) (ow hw 84 rfl) e106 (nn := y) (dp := (0 : Int32)) F105 V102 ⟨hy, hy0⟩ ⟨rfl, by decide⟩ (by rw [← hy]; exact own_ylt hlt) (by rw [hy]; exact Nat.le_of_eq (Nat.zero_add _)) N106 (Nat.le_trans Z0 (Nat.le_of_eq g102.symm)) (g := (mkF m 27 #[r' t, i' 0, i' y, i' y, r' b102] [(.int y), (.int 0), (.ref b102), (.int 0), (.ref t)])) rfl (by rw [hml]; rfl) (rest := []) rfl (hb hby own_d24_27) (by decide) (W := 0) (by show 2 * 0 + _ ≤ _; exact Nat.le_of_eq rfl) (by decide)
    refine go _ _ (st110) ?_
    show G (T110.setTop (mkF m 30 #[r' t, i' 0, i' y, i' y, r' b102] []))
    refine go _ _ (fun _ k => XS.aload X110.here hx rfl (hb hby own_d24_30) rfl rfl k) ?_
    show G (T110.setTop (mkF m 32 #[r' t, i' 0, i' y, i' y, r' b102] [(.ref b102)]))
    have K111 : Keep h0 h110 [] := K104.trans Kp110 (allS (Or.inr (Nat.le_of_eq g102.symm)) all0)
    refine fin T110 _ _ _ (some (.ref b102)) X110 (fun q => nomatch q) (by decide) (by decide) (by rw [e110]; exact ⟨N110, K111, ⟨b102, k102, rfl, (Nat.le_of_eq g102.symm), V110⟩⟩) _ (own_retA X110 hx hret rfl rfl rfl (hb hby own_d24_32))
  · exact absurd hlt p109
theorem own_d23_0 : decode jdk_65_method_132_code 0 = .ok (.iload_n 1, 1) := by decide +kernel
theorem own_d23_1 : decode jdk_65_method_132_code 1 = .ok (.ifCond .ne 9, 3) := by decide +kernel
theorem own_d23_4 : decode jdk_65_method_132_code 4 = .ok (.iload_n 2, 1) := by decide +kernel
theorem own_d23_5 : decode jdk_65_method_132_code 5 = .ok (.aload_n 0, 1) := by decide +kernel
theorem own_d23_6 : decode jdk_65_method_132_code 6 = .ok (.arraylength, 1) := by decide +kernel
theorem own_d23_7 : decode jdk_65_method_132_code 7 = .ok (.if_icmp .eq 10, 3) := by decide +kernel
theorem own_d23_10 : decode jdk_65_method_132_code 10 = .ok (.aload_n 0, 1) := by decide +kernel
theorem own_d23_11 : decode jdk_65_method_132_code 11 = .ok (.iload_n 1, 1) := by decide +kernel
theorem own_d23_12 : decode jdk_65_method_132_code 12 = .ok (.iload_n 2, 1) := by decide +kernel
theorem own_pd30 : parseMethodDescriptor "([BII)[B" = some ⟨[(.array .byte), .int, .int], some (.array .byte)⟩ := by decide +kernel
theorem own_d23_13 : decode jdk_65_method_132_code 13 = .ok (.invokestatic 339, 3) := by decide +kernel
theorem own_d23_16 : decode jdk_65_method_132_code 16 = .ok (.areturn, 1) := by decide +kernel
set_option maxHeartbeats 4000000 in
theorem own_ef_rm23 (m : MethodId) (x0 : Addr) (x1 : Int32) (x2 : Int32) : entryFrame m #[(.ref x0), (.int x1), (.int x2)] 3 = mkF m 0 #[.val (.ref x0), .val (.int x1), .val (.int x2)] [] := by rfl
set_option maxRecDepth 65536 in
set_option maxHeartbeats 40000000 in
theorem rm23 (l : Launch) (Z : State) (a0 : Array Value) (hw : ∀ d ∈ tables_1, d.before a0 Z = true) (z0 : Int32) (fm0 : Value) (gl : own_Gl Z z0 fm0) (ws : List Jvm.Cond) (t : Addr) (y : Int32) (kb : ClassId) (zt : Int32) (vs : List Value) (h0 : Heap) (n0 : Nat) (Z0 : n0 ≤ h0.size) (At : Arv Z h0 t kb .byte zt vs (.int (0 : Int32))) (hy : y.toNatClampNeg = vs.length) (hy0 : ¬ y < (0 : Int32)) (hlt : y < zt) (hcap : vs.length ≤ 32) (hne : ¬ y = zt) :
    own_MetN l Z (⟨"java/util/Arrays", "copyOfRange", "([BII)[B"⟩ : MethodName) jdk_65_method_132_code 3 (some (.array .byte)) ws ({ frames := 2, cells := 1, slots := 32, locals := 43 } : Room) #[(.ref t), (.int (0 : Int32)), (.int y)] h0 (fun v h L => Fr n0 L ∧ Keep h0 h [] ∧ ((∃ (b : Addr) (kb2 : ClassId), (v = some (.ref b)) ∧ (h0.size ≤ b) ∧ (Arv Z h b kb2 .byte y vs (.int (0 : Int32)))))) := by
  refine own_metN (plainFor_of_name own_pn6) ?_
  intro p e s m below meth c s₁ G hx hby hml hZ hown hnm hret X0 e0 go fin
  obtain ⟨O2, P5, O4, R4, O_ad, O_hi, O_lo⟩ := id gl
  have N0 := Fr.nil n0
  refine go _ _ (fun _ k => castTop (own_ef_rm23 m t (0 : Int32) y) k) ?_
  show G (s₁.setTop (mkF m 0 #[r' t, i' 0, i' y] []))
  refine go _ _ (fun _ k => XS.iloadN X0.here hx rfl (hb hby own_d23_0) rfl k) ?_
  show G (s₁.setTop (mkF m 1 #[r' t, i' 0, i' y] [(.int 0)]))
  refine go _ _ (fun _ k => XS.ifNo X0.here hx rfl (hb hby own_d23_1) rfl (by decide) k) ?_
  show G (s₁.setTop (mkF m 4 #[r' t, i' 0, i' y] []))
  refine go _ _ (fun _ k => XS.iloadN X0.here hx rfl (hb hby own_d23_4) rfl (XS.aloadN X0.here hx rfl (hb hby own_d23_5) rfl rfl k)) ?_
  show G (s₁.setTop (mkF m 6 #[r' t, i' 0, i' y] [(.ref t), (.int y)]))
  obtain ⟨cl101, Ar101, q101, S101, M101, H101, U101⟩ := id At
  refine go _ _ (fun _ k => X0.arraylength hx (by rw [e0]; exact Ar101.1) (State.isArrayOf_alike hZ.alike Ar101.2.1) (g := (mkF m 6 #[r' t, i' 0, i' y] [(.ref t), (.int y)])) rfl rfl (hb hby own_d23_6) _ k) ?_
  show G (s₁.setTop (mkF m 7 #[r' t, i' 0, i' y] [(.int cl101.slots.size.toInt32), (.int y)]))
  rw [len_of S101 M101]
  show G (s₁.setTop (mkF m 7 #[r' t, i' 0, i' y] [(.int zt), (.int y)]))
  refine go _ _ (fun _ k => XS.icmpNo X0.here hx rfl (hb hby own_d23_7) rfl (feq hne).1 k) ?_
  show G (s₁.setTop (mkF m 10 #[r' t, i' 0, i' y] []))
  refine go _ _ (fun _ k => XS.aloadN X0.here hx rfl (hb hby own_d23_10) rfl rfl (XS.iloadN X0.here hx rfl (hb hby own_d23_11) rfl (XS.iloadN X0.here hx rfl (hb hby own_d23_12) rfl k))) ?_
  obtain ⟨rv102, T102, L102, X102, q102, st102⟩ := own_st X0 hx hZ (y := (⟨"java/util/Arrays", "copyOfRangeByte", "([BII)[B"⟩ : MethodName)) hown (ow hw 136 rfl) (ow hw 137 rfl) (ow hw 134 rfl) (ow hw 138 rfl) (by decide) (own_bkN (W := 0) (rm24 l Z a0 hw z0 fm0 gl [] t y kb zt vs h0 n0 Z0 At hy hy0 hlt hcap) hZ (ow hw 138 rfl) (ow hw 134 rfl) (by decide) (by decide)) e0 (g := (mkF m 13 #[r' t, i' 0, i' y] [(.int y), (.int 0), (.ref t)])) rfl (by rw [hml]; rfl) (argsL := [(.ref t), (.int (0 : Int32)), (.int y)]) (rest := []) rfl (lenOf own_pd30 rfl) rfl (by show 2 * 0 + _ ≤ _; exact Nat.le_of_eq rfl) (hb hby own_d23_13) (by decide) (by decide)
  obtain ⟨Nq102, Kp102, ⟨b_103, kb2_104, rfl, z105, f106⟩⟩ := q102
  have N102 := Fr.app N0 Nq102
  refine go _ _ (st102) ?_
  show G (T102.setTop (mkF m 16 #[r' t, i' 0, i' y] [(.ref b_103)]))
  have K107 : Keep h0 T102.heap [] := (Keep.refl h0 []).trans Kp102 all0
  refine fin T102 _ _ _ (some (.ref b_103)) X102 (fun q => nomatch q) (by decide) (by decide) ⟨N102, K107, ⟨b_103, kb2_104, rfl, z105, f106⟩⟩ _ (own_retA X102 hx hret rfl rfl rfl (hb hby own_d23_16))
theorem own_d19_0 : decode jdk_42_method_150_code 0 = .ok (.aload_n 0, 1) := by decide +kernel
theorem own_d19_1 : decode jdk_42_method_150_code 1 = .ok (.invokespecial 1, 3) := by decide +kernel
theorem own_d19_4 : decode jdk_42_method_150_code 4 = .ok (.aload_n 1, 1) := by decide +kernel
theorem own_pd31 : parseMethodDescriptor "()[B" = some ⟨[], some (.array .byte)⟩ := by decide +kernel
theorem own_d19_5 : decode jdk_42_method_150_code 5 = .ok (.invokevirtual 552, 3) := by decide +kernel
theorem own_d19_8 : decode jdk_42_method_150_code 8 = .ok (.astore_n 3, 1) := by decide +kernel
theorem own_d19_9 : decode jdk_42_method_150_code 9 = .ok (.aload_n 1, 1) := by decide +kernel
theorem own_d19_10 : decode jdk_42_method_150_code 10 = .ok (.invokevirtual 549, 3) := by decide +kernel
theorem own_d19_13 : decode jdk_42_method_150_code 13 = .ok (.istore 4, 2) := by decide +kernel
theorem own_d19_15 : decode jdk_42_method_150_code 15 = .ok (.aload_n 1, 1) := by decide +kernel
theorem own_d19_16 : decode jdk_42_method_150_code 16 = .ok (.invokevirtual 1047, 3) := by decide +kernel
theorem own_d19_19 : decode jdk_42_method_150_code 19 = .ok (.ifCond .eq 22, 3) := by decide +kernel
theorem own_d19_22 : decode jdk_42_method_150_code 22 = .ok (.aload_n 0, 1) := by decide +kernel
theorem own_d19_23 : decode jdk_42_method_150_code 23 = .ok (.iconst 0, 1) := by decide +kernel
theorem own_d19_24 : decode jdk_42_method_150_code 24 = .ok (.putfield 15, 3) := by decide +kernel
theorem own_d19_27 : decode jdk_42_method_150_code 27 = .ok (.aload_n 0, 1) := by decide +kernel
theorem own_d19_28 : decode jdk_42_method_150_code 28 = .ok (.aload_n 3, 1) := by decide +kernel
theorem own_d19_29 : decode jdk_42_method_150_code 29 = .ok (.iconst 0, 1) := by decide +kernel
theorem own_d19_30 : decode jdk_42_method_150_code 30 = .ok (.iload 4, 2) := by decide +kernel
theorem own_d19_32 : decode jdk_42_method_150_code 32 = .ok (.invokestatic 54, 3) := by decide +kernel
theorem own_d19_35 : decode jdk_42_method_150_code 35 = .ok (.putfield 9, 3) := by decide +kernel
theorem own_d19_38 : decode jdk_42_method_150_code 38 = .ok (.goto 59, 3) := by decide +kernel
theorem own_d19_97 : decode jdk_42_method_150_code 97 = .ok (.return_, 1) := by decide +kernel
theorem own_d19_41 : decode jdk_42_method_150_code 41 = .ok (.getstatic 38, 3) := by decide +kernel
theorem own_d19_44 : decode jdk_42_method_150_code 44 = .ok (.ifCond .eq 35, 3) := by decide +kernel
theorem own_d19_47 : decode jdk_42_method_150_code 47 = .ok (.aload_n 1, 1) := by decide +kernel
theorem own_d19_48 : decode jdk_42_method_150_code 48 = .ok (.getfield 1048, 3) := by decide +kernel
theorem own_d19_51 : decode jdk_42_method_150_code 51 = .ok (.ifCond .eq 28, 3) := by decide +kernel
theorem own_d19_79 : decode jdk_42_method_150_code 79 = .ok (.aload_n 0, 1) := by decide +kernel
theorem own_d19_80 : decode jdk_42_method_150_code 80 = .ok (.iconst 1, 1) := by decide +kernel
theorem own_d19_81 : decode jdk_42_method_150_code 81 = .ok (.putfield 15, 3) := by decide +kernel
theorem own_d19_84 : decode jdk_42_method_150_code 84 = .ok (.aload_n 0, 1) := by decide +kernel
theorem own_d19_85 : decode jdk_42_method_150_code 85 = .ok (.aload_n 3, 1) := by decide +kernel
theorem own_d19_86 : decode jdk_42_method_150_code 86 = .ok (.iconst 0, 1) := by decide +kernel
theorem own_d19_87 : decode jdk_42_method_150_code 87 = .ok (.iload 4, 2) := by decide +kernel
theorem own_d19_89 : decode jdk_42_method_150_code 89 = .ok (.iconst 1, 1) := by decide +kernel
theorem own_d19_90 : decode jdk_42_method_150_code 90 = .ok (.ishl, 1) := by decide +kernel
theorem own_d19_91 : decode jdk_42_method_150_code 91 = .ok (.invokestatic 54, 3) := by decide +kernel
theorem own_d19_94 : decode jdk_42_method_150_code 94 = .ok (.putfield 9, 3) := by decide +kernel
set_option maxHeartbeats 4000000 in
theorem own_ef_rm19 (m : MethodId) (x0 : Addr) (x1 : Addr) : entryFrame m #[(.ref x0), (.ref x1), .null] 5 = mkF m 0 #[.val (.ref x0), .val (.ref x1), .val .null, .unset, .unset] [] := by rfl
set_option maxRecDepth 65536 in
set_option maxHeartbeats 40000000 in
theorem rm19 (l : Launch) (Z : State) (a0 : Array Value) (hw : ∀ d ∈ tables_1, d.before a0 Z = true) (z0 : Int32) (fm0 : Value) (gl : own_Gl Z z0 fm0) (ws : List Jvm.Cond) (x : Addr) (a : Addr) (t : Addr) (cs : List Int32) (h0 : Heap) (n0 : Nat) (Z0 : n0 ≤ h0.size) (Ex : Exa Z h0 x "java/lang/String") (Vx : Fld Z h0 x "java/lang/String" "value" "[B" .null) (Cx : Fld Z h0 x "java/lang/String" "coder" "B" (.int (0 : Int32))) (Xo : Old Z n0 h0) (Ba : own_B Z h0 a t cs) (hl : cs.length ≤ 15) (gz_x : n0 ≤ x) :
    own_MetN l Z (⟨"java/lang/String", "<init>", "(Ljava/lang/AbstractStringBuilder;Ljava/lang/Void;)V"⟩ : MethodName) jdk_42_method_150_code 5 none ws ({ frames := 3, cells := 1, slots := 32, locals := 58 } : Room) #[(.ref x), (.ref a), .null] h0 (fun v h L => Fr n0 L ∧ Keep h0 h [x] ∧ (((v = none) ∧ (Exa Z h x "java/lang/String") ∧ (own_S Z h x cs)))) := by
  refine own_metN (plainFor_of_name own_pn0) ?_
  intro p e s m below meth c s₁ G hx hby hml hZ hown hnm hret X0 e0 go fin
  obtain ⟨O2, P5, O4, R4, O_ad, O_hi, O_lo⟩ := id gl
  have N0 := Fr.nil n0
  refine go _ _ (fun _ k => castTop (own_ef_rm19 m x a) k) ?_
  show G (s₁.setTop (mkF m 0 #[r' x, r' a, .val .null, u', u'] []))
  obtain ⟨Ea101, Fv101, Fn101, Fm101, bc101, cb101⟩ := id Ba
  rcases cb101 with ⟨Fc101, b8101, kb101, At101⟩ | ⟨Fc101, kb101, At101⟩
  · refine go _ _ (fun _ k => XS.aloadN X0.here hx rfl (hb hby own_d19_0) rfl rfl k) ?_
    obtain ⟨T102, X102, e102, st102⟩ := initO X0 hx hZ hown (ow hw 117 rfl) (ow hw 29 rfl) (ow hw 30 rfl) e0 (g := (mkF m 1 #[r' x, r' a, .val .null, u', u'] [(.ref x)])) rfl (by rw [hml]; rfl) rfl (hb hby own_d19_1) (by decide) (W := 0) (by show 2 * 0 + _ ≤ _; exact Nat.le_of_eq rfl) (by decide)
    refine go _ _ (st102) ?_
    show G (T102.setTop (mkF m 4 #[r' x, r' a, .val .null, u', u'] []))
    refine go _ _ (fun _ k => XS.aloadN X102.here hx rfl (hb hby own_d19_4) rfl rfl k) ?_
    obtain ⟨rv103, T103, L103, X103, q103, st103⟩ := own_vi X102 hx hZ (y := (⟨"java/lang/AbstractStringBuilder", "getValue", "()[B"⟩ : MethodName)) (z := (⟨"java/lang/AbstractStringBuilder", "getValue", "()[B"⟩ : MethodName)) hown (ow hw 118 rfl) (ow hw 119 rfl) (ow hw 121 rfl) (ow hw 120 rfl) (Or.inl rfl) (by decide) (own_bkN (W := 0) (rm20 l Z a0 hw z0 fm0 gl [] a t h0 n0 Z0 Fv101) hZ (ow hw 122 rfl) (ow hw 26 rfl) (by decide) (by decide)) e102 Ea101 (g := (mkF m 5 #[r' x, r' a, .val .null, u', u'] [(.ref a)])) rfl (by rw [hml]; rfl) (argsL := []) (rest := []) rfl (lenOf own_pd31 rfl) rfl (by show 2 * 0 + _ ≤ _; exact Nat.le_of_eq rfl) (hb hby own_d19_5) (by decide) (by decide)
    obtain ⟨Nq103, e103, rfl⟩ := q103
    have N103 := Fr.app N0 Nq103
    refine go _ _ (st103) ?_
    show G (T103.setTop (mkF m 8 #[r' x, r' a, .val .null, u', u'] [(.ref t)]))
    refine go _ _ (fun _ k => XS.astoreN X103.here hx rfl (hb hby own_d19_8) rfl rfl (l' := #[r' x, r' a, .val .null, r' t, u']) rfl (XS.aloadN X103.here hx rfl (hb hby own_d19_9) rfl rfl k)) ?_
    obtain ⟨rv104, T104, L104, X104, q104, st104⟩ := own_vi X103 hx hZ (y := (⟨"java/lang/AbstractStringBuilder", "length", "()I"⟩ : MethodName)) (z := (⟨"java/lang/StringBuilder", "length", "()I"⟩ : MethodName)) hown (ow hw 123 rfl) (ow hw 124 rfl) (ow hw 126 rfl) (ow hw 127 rfl) (Or.inr (Or.inr (Or.inr ⟨_, _, (⟨"java/lang/AbstractStringBuilder", "ensureCapacityInternal", "(I)V"⟩ : MethodName), rfl, (ow hw 64 rfl)⟩))) (by decide) (own_bkN (W := 0) (rm21 l Z a0 hw z0 fm0 gl [] a (own_n cs) h0 n0 Z0 Ea101 Fn101) hZ (ow hw 128 rfl) (ow hw 18 rfl) (by decide) (by decide)) e103 Ea101 (g := (mkF m 10 #[r' x, r' a, .val .null, r' t, u'] [(.ref a)])) rfl (by rw [hml]; rfl) (argsL := []) (rest := []) rfl (lenOf own_pd20 rfl) rfl (by show 2 * 0 + _ ≤ _; exact Nat.le_of_eq rfl) (hb hby own_d19_10) (by decide) (by decide)
    obtain ⟨Nq104, e104, rfl⟩ := q104
    have N104 := Fr.app N103 Nq104
    refine go _ _ (st104) ?_
    show G (T104.setTop (mkF m 13 #[r' x, r' a, .val .null, r' t, u'] [(.int (own_n cs))]))
    refine go _ _ (fun _ k => XS.istore X104.here hx rfl (hb hby own_d19_13) rfl (l' := #[r' x, r' a, .val .null, r' t, i' (own_n cs)]) rfl (XS.aloadN X104.here hx rfl (hb hby own_d19_15) rfl rfl k)) ?_
    obtain ⟨rv105, T105, L105, X105, q105, st105⟩ := own_vi X104 hx hZ (y := (⟨"java/lang/AbstractStringBuilder", "isLatin1", "()Z"⟩ : MethodName)) (z := (⟨"java/lang/AbstractStringBuilder", "isLatin1", "()Z"⟩ : MethodName)) hown (ow hw 131 rfl) (ow hw 96 rfl) (ow hw 98 rfl) (ow hw 97 rfl) (Or.inl rfl) (by decide) (own_bkN (W := 0) (rmIb0 l Z a0 hw z0 fm0 gl [] a h0 n0 Z0 Xo Fc101) hZ (ow hw 99 rfl) (ow hw 26 rfl) (by decide) (by decide)) e104 Ea101 (g := (mkF m 16 #[r' x, r' a, .val .null, r' t, i' (own_n cs)] [(.ref a)])) rfl (by rw [hml]; rfl) (argsL := []) (rest := []) rfl (lenOf own_pd8 rfl) rfl (by show 2 * 0 + _ ≤ _; exact Nat.le_of_eq rfl) (hb hby own_d19_16) (by decide) (by decide)
    obtain ⟨Nq105, e105, rfl⟩ := q105
    have N105 := Fr.app N104 Nq105
    refine go _ _ (st105) ?_
    show G (T105.setTop (mkF m 19 #[r' x, r' a, .val .null, r' t, i' (own_n cs)] [(.int 1)]))
    refine go _ _ (fun _ k => XS.ifNo X105.here hx rfl (hb hby own_d19_19) rfl (by decide) k) ?_
    show G (T105.setTop (mkF m 22 #[r' x, r' a, .val .null, r' t, i' (own_n cs)] []))
    refine go _ _ (fun _ k => XS.aloadN X105.here hx rfl (hb hby own_d19_22) rfl rfl (XS.iconst X105.here hx rfl (hb hby own_d19_23) k)) ?_
    obtain ⟨T106, h106, X106, e106, W106, st106⟩ := putF X105 hx hZ hown (host := "") (Or.inl (ow hw 58 rfl)) Via.refl e105 Cx Ex (Or.inr ⟨(ow hw 9 rfl), rfl, hnm⟩) (ow hw 6 rfl) (ty := .byte) (by decide) rfl rfl (g := (mkF m 24 #[r' x, r' a, .val .null, r' t, i' (own_n cs)] [(.int 0), (.ref x)])) rfl rfl (hb hby own_d19_24)
    have N106 := Fr.snoc X106 N105 gz_x
    refine go _ _ (st106) ?_
    show G (T106.setTop (mkF m 27 #[r' x, r' a, .val .null, r' t, i' (own_n cs)] []))
    refine go _ _ (fun _ k => XS.aloadN X106.here hx rfl (hb hby own_d19_27) rfl rfl (XS.aloadN X106.here hx rfl (hb hby own_d19_28) rfl rfl (XS.iconst X106.here hx rfl (hb hby own_d19_29) (XS.iload X106.here hx rfl (hb hby own_d19_30) rfl k)))) ?_
    have K108 : Keep h0 h106 [x] := (Keep.refl h0 [x]).wr W106 (Or.inl (List.mem_of_getElem? (i := 0) rfl))
    have ne109 : t ≠ x := Ne.symm (Exa.neArv Ex At101 (ow hw 6 rfl))
    have F110 : Arv Z h106 t kb101 .byte (16 : Int32) (own_bs cs) (.int (0 : Int32)) := (At101.keep K108 (ninS ne109 nin0))
    have Z111 : h0.size ≤ h106.size := (Keep.of_wr W106).1
    obtain ⟨rv107, T107, L107, X107, q107, st107⟩ := own_st X106 hx hZ (y := (⟨"java/util/Arrays", "copyOfRange", "([BII)[B"⟩ : MethodName)) hown (ow hw 132 rfl) (ow hw 133 rfl) (ow hw 134 rfl) (ow hw 135 rfl) (by decide) (own_bkN (W := 1) (rm23 l Z a0 hw z0 fm0 gl [] t (own_n cs) kb101 (16 : Int32) (own_bs cs) h106 n0 (Nat.le_trans Z0 Z111) F110 ((own_nb (by omega)).1) (own_jz (n := cs.length) (by omega)) (own_j16 (n := cs.length) (by omega)) (by rw [own_bs_len]; omega) ((own_capl (by omega)).2)) hZ (ow hw 135 rfl) (ow hw 134 rfl) (by decide) (by decide)) e106 (g := (mkF m 32 #[r' x, r' a, .val .null, r' t, i' (own_n cs)] [(.int (own_n cs)), (.int 0), (.ref t), (.ref x)])) rfl (by rw [hml]; rfl) (argsL := [(.ref t), (.int (0 : Int32)), (.int (own_n cs))]) (rest := [(.ref x)]) rfl (lenOf own_pd30 rfl) rfl (by show 2 * 0 + _ ≤ _; exact Nat.le_of_eq rfl) (hb hby own_d19_32) (by decide) (by decide)
    obtain ⟨Nq107, Kp107, ⟨b_112, kb2_113, rfl, z114, f115⟩⟩ := q107
    have N107 := Fr.app N106 Nq107
    refine go _ _ (st107) ?_
    have K117 : Keep h106 T107.heap [] := (Keep.refl h106 []).trans Kp107 all0
    have F118 : Fld Z T107.heap x "java/lang/String" "value" "[B" .null := ((Vx.other W106 (Or.inr (RoadKit.slot_ne (t := (.array .byte)) (t' := .byte) (Or.inr (ow hw 8 rfl)) (Or.inr (ow hw 9 rfl)) (by decide) (by decide) (by decide)))).keep K117 nin0)
    have F119 : Exa Z T107.heap x "java/lang/String" := ((Ex.wr W106).keep K117)
    obtain ⟨T116, h116, X116, e116, W116, st116⟩ := putF X107 hx hZ hown (host := "") (Or.inl (ow hw 51 rfl)) Via.refl rfl F118 F119 (Or.inr ⟨(ow hw 8 rfl), rfl, hnm⟩) (ow hw 6 rfl) (ty := (.array .byte)) (by decide) rfl rfl (g := (mkF m 35 #[r' x, r' a, .val .null, r' t, i' (own_n cs)] [(.ref b_112), (.ref x)])) rfl rfl (hb hby own_d19_35)
    have F120 : Fld Z T107.heap x "java/lang/String" "coder" "B" (.int (0 : Int32)) := ((Cx.same W106).keep K117 nin0)
    have N116 := Fr.snoc X116 N107 gz_x
    refine go _ _ (st116) ?_
    show G (T116.setTop (mkF m 38 #[r' x, r' a, .val .null, r' t, i' (own_n cs)] []))
    refine go _ _ (fun _ k => XS.goto X116.here hx rfl (pc0 := 38) (pc' := 97) rfl (hb hby own_d19_38) (by decide) (by decide) k) ?_
    show G (T116.setTop (mkF m 97 #[r' x, r' a, .val .null, r' t, i' (own_n cs)] []))
    have K121 : Keep h0 T107.heap [x] := K108.trans Kp107 all0
    have K122 : Keep h0 h116 [x] := K121.wr W116 (Or.inl (List.mem_of_getElem? (i := 0) rfl))
    have K123 : Keep T107.heap h116 [x] := (Keep.refl T107.heap [x]).wr W116 (Or.inl (List.mem_of_getElem? (i := 0) rfl))
    have F124 : Arv Z h116 b_112 kb2_113 .byte (own_n cs) (own_bs cs) (.int (0 : Int32)) := (f115.keep K123 (ninS (Ne.symm (Nat.ne_of_lt (Nat.lt_of_lt_of_le (Cx.same W106).lt z114))) nin0))
    have Sx : own_S Z h116 x cs := ⟨_, _, (F119.wr W116), (F118.same W116), bc101, (by omega), (Or.inl ⟨(F120.other W116 (Or.inr (RoadKit.slot_ne (t := .byte) (t' := (.array .byte)) (Or.inr (ow hw 9 rfl)) (Or.inr (ow hw 8 rfl)) (by decide) (by decide) (by decide)))), F124, b8101⟩)⟩
    refine fin T116 _ _ _ none X116 (fun _ => rfl) (by decide) (by decide) (by rw [e116]; exact ⟨N116, K122, ⟨rfl, (F119.wr W116), Sx⟩⟩) _ (own_retV X116 hx hret (hb hby own_d19_97))
  · refine go _ _ (fun _ k => XS.aloadN X0.here hx rfl (hb hby own_d19_0) rfl rfl k) ?_
    obtain ⟨T125, X125, e125, st125⟩ := initO X0 hx hZ hown (ow hw 117 rfl) (ow hw 29 rfl) (ow hw 30 rfl) e0 (g := (mkF m 1 #[r' x, r' a, .val .null, u', u'] [(.ref x)])) rfl (by rw [hml]; rfl) rfl (hb hby own_d19_1) (by decide) (W := 0) (by show 2 * 0 + _ ≤ _; exact Nat.le_of_eq rfl) (by decide)
    refine go _ _ (st125) ?_
    show G (T125.setTop (mkF m 4 #[r' x, r' a, .val .null, u', u'] []))
    refine go _ _ (fun _ k => XS.aloadN X125.here hx rfl (hb hby own_d19_4) rfl rfl k) ?_
    obtain ⟨rv126, T126, L126, X126, q126, st126⟩ := own_vi X125 hx hZ (y := (⟨"java/lang/AbstractStringBuilder", "getValue", "()[B"⟩ : MethodName)) (z := (⟨"java/lang/AbstractStringBuilder", "getValue", "()[B"⟩ : MethodName)) hown (ow hw 118 rfl) (ow hw 119 rfl) (ow hw 121 rfl) (ow hw 120 rfl) (Or.inl rfl) (by decide) (own_bkN (W := 0) (rm20 l Z a0 hw z0 fm0 gl [] a t h0 n0 Z0 Fv101) hZ (ow hw 122 rfl) (ow hw 26 rfl) (by decide) (by decide)) e125 Ea101 (g := (mkF m 5 #[r' x, r' a, .val .null, u', u'] [(.ref a)])) rfl (by rw [hml]; rfl) (argsL := []) (rest := []) rfl (lenOf own_pd31 rfl) rfl (by show 2 * 0 + _ ≤ _; exact Nat.le_of_eq rfl) (hb hby own_d19_5) (by decide) (by decide)
    obtain ⟨Nq126, e126, rfl⟩ := q126
    have N126 := Fr.app N0 Nq126
    refine go _ _ (st126) ?_
    show G (T126.setTop (mkF m 8 #[r' x, r' a, .val .null, u', u'] [(.ref t)]))
    refine go _ _ (fun _ k => XS.astoreN X126.here hx rfl (hb hby own_d19_8) rfl rfl (l' := #[r' x, r' a, .val .null, r' t, u']) rfl (XS.aloadN X126.here hx rfl (hb hby own_d19_9) rfl rfl k)) ?_
    obtain ⟨rv127, T127, L127, X127, q127, st127⟩ := own_vi X126 hx hZ (y := (⟨"java/lang/AbstractStringBuilder", "length", "()I"⟩ : MethodName)) (z := (⟨"java/lang/StringBuilder", "length", "()I"⟩ : MethodName)) hown (ow hw 123 rfl) (ow hw 124 rfl) (ow hw 126 rfl) (ow hw 127 rfl) (Or.inr (Or.inr (Or.inr ⟨_, _, (⟨"java/lang/AbstractStringBuilder", "ensureCapacityInternal", "(I)V"⟩ : MethodName), rfl, (ow hw 64 rfl)⟩))) (by decide) (own_bkN (W := 0) (rm21 l Z a0 hw z0 fm0 gl [] a (own_n cs) h0 n0 Z0 Ea101 Fn101) hZ (ow hw 128 rfl) (ow hw 18 rfl) (by decide) (by decide)) e126 Ea101 (g := (mkF m 10 #[r' x, r' a, .val .null, r' t, u'] [(.ref a)])) rfl (by rw [hml]; rfl) (argsL := []) (rest := []) rfl (lenOf own_pd20 rfl) rfl (by show 2 * 0 + _ ≤ _; exact Nat.le_of_eq rfl) (hb hby own_d19_10) (by decide) (by decide)
    obtain ⟨Nq127, e127, rfl⟩ := q127
    have N127 := Fr.app N126 Nq127
    refine go _ _ (st127) ?_
    show G (T127.setTop (mkF m 13 #[r' x, r' a, .val .null, r' t, u'] [(.int (own_n cs))]))
    refine go _ _ (fun _ k => XS.istore X127.here hx rfl (hb hby own_d19_13) rfl (l' := #[r' x, r' a, .val .null, r' t, i' (own_n cs)]) rfl (XS.aloadN X127.here hx rfl (hb hby own_d19_15) rfl rfl k)) ?_
    obtain ⟨rv128, T128, L128, X128, q128, st128⟩ := own_vi X127 hx hZ (y := (⟨"java/lang/AbstractStringBuilder", "isLatin1", "()Z"⟩ : MethodName)) (z := (⟨"java/lang/AbstractStringBuilder", "isLatin1", "()Z"⟩ : MethodName)) hown (ow hw 131 rfl) (ow hw 96 rfl) (ow hw 98 rfl) (ow hw 97 rfl) (Or.inl rfl) (by decide) (own_bkN (W := 0) (rmIb1 l Z a0 hw z0 fm0 gl [] a h0 n0 Z0 Xo Fc101) hZ (ow hw 99 rfl) (ow hw 26 rfl) (by decide) (by decide)) e127 Ea101 (g := (mkF m 16 #[r' x, r' a, .val .null, r' t, i' (own_n cs)] [(.ref a)])) rfl (by rw [hml]; rfl) (argsL := []) (rest := []) rfl (lenOf own_pd8 rfl) rfl (by show 2 * 0 + _ ≤ _; exact Nat.le_of_eq rfl) (hb hby own_d19_16) (by decide) (by decide)
    obtain ⟨Nq128, e128, rfl⟩ := q128
    have N128 := Fr.app N127 Nq128
    refine go _ _ (st128) ?_
    show G (T128.setTop (mkF m 19 #[r' x, r' a, .val .null, r' t, i' (own_n cs)] [(.int 0)]))
    refine go _ _ (fun _ k => XS.ifYes X128.here hx rfl (pc0 := 19) (pc' := 41) rfl (hb hby own_d19_19) rfl (by decide) (by decide) (by decide) k) ?_
    obtain ⟨T129, X129, e129, st129⟩ := getS2 X128 hx hZ (host := "") hown (Or.inl (ow hw 57 rfl)) Via.refl e128 (O2.ext Xo.2) (g := (mkF m 41 #[r' x, r' a, .val .null, r' t, i' (own_n cs)] [])) rfl (hb hby own_d19_41)
    refine go _ _ (st129) ?_
    show G (T129.setTop (mkF m 44 #[r' x, r' a, .val .null, r' t, i' (own_n cs)] [(.int z0)]))
    refine go _ _ (fun _ k => XS.ifNo X129.here hx rfl (hb hby own_d19_44) rfl ((if0 _ _).trans (feq P5).1) k) ?_
    show G (T129.setTop (mkF m 47 #[r' x, r' a, .val .null, r' t, i' (own_n cs)] []))
    refine go _ _ (fun _ k => XS.aloadN X129.here hx rfl (hb hby own_d19_47) rfl rfl k) ?_
    obtain ⟨T130, X130, e130, st130⟩ := getF X129 hx hZ hown (host := "") (Or.inl (ow hw 255 rfl)) Via.refl e129 Fm101 (g := (mkF m 48 #[r' x, r' a, .val .null, r' t, i' (own_n cs)] [(.ref a)])) rfl rfl (hb hby own_d19_48)
    refine go _ _ (st130) ?_
    show G (T130.setTop (mkF m 51 #[r' x, r' a, .val .null, r' t, i' (own_n cs)] [(.int 0)]))
    refine go _ _ (fun _ k => XS.ifYes X130.here hx rfl (pc0 := 51) (pc' := 79) rfl (hb hby own_d19_51) rfl (by decide) (by decide) (by decide) k) ?_
    show G (T130.setTop (mkF m 79 #[r' x, r' a, .val .null, r' t, i' (own_n cs)] []))
    refine go _ _ (fun _ k => XS.aloadN X130.here hx rfl (hb hby own_d19_79) rfl rfl (XS.iconst X130.here hx rfl (hb hby own_d19_80) k)) ?_
    obtain ⟨T131, h131, X131, e131, W131, st131⟩ := putF X130 hx hZ hown (host := "") (Or.inl (ow hw 58 rfl)) Via.refl e130 Cx Ex (Or.inr ⟨(ow hw 9 rfl), rfl, hnm⟩) (ow hw 6 rfl) (ty := .byte) (by decide) rfl rfl (g := (mkF m 81 #[r' x, r' a, .val .null, r' t, i' (own_n cs)] [(.int 1), (.ref x)])) rfl rfl (hb hby own_d19_81)
    have N131 := Fr.snoc X131 N128 gz_x
    refine go _ _ (st131) ?_
    show G (T131.setTop (mkF m 84 #[r' x, r' a, .val .null, r' t, i' (own_n cs)] []))
    refine go _ _ (fun _ k => XS.aloadN X131.here hx rfl (hb hby own_d19_84) rfl rfl (XS.aloadN X131.here hx rfl (hb hby own_d19_85) rfl rfl (XS.iconst X131.here hx rfl (hb hby own_d19_86) (XS.iload X131.here hx rfl (hb hby own_d19_87) rfl (XS.iconst X131.here hx rfl (hb hby own_d19_89) (XS.ishl X131.here hx rfl (hb hby own_d19_90) rfl k)))))) ?_
    show G (T131.setTop (mkF m 91 #[r' x, r' a, .val .null, r' t, i' (own_n cs)] [(.int ((own_n cs) <<< ((1 : Int32) &&& 31))), (.int 0), (.ref t), (.ref x)]))
    rw [(own_shl2 (cs := cs) (by omega))]
    show G (T131.setTop (mkF m 91 #[r' x, r' a, .val .null, r' t, i' (own_n cs)] [(.int (own_n2 cs)), (.int 0), (.ref t), (.ref x)]))
    have K133 : Keep h0 h131 [x] := (Keep.refl h0 [x]).wr W131 (Or.inl (List.mem_of_getElem? (i := 0) rfl))
    have ne134 : t ≠ x := Ne.symm (Exa.neArv Ex At101 (ow hw 6 rfl))
    have F135 : Arv Z h131 t kb101 .byte (32 : Int32) (own_u cs) (.int (0 : Int32)) := (At101.keep K133 (ninS ne134 nin0))
    have Z136 : h0.size ≤ h131.size := (Keep.of_wr W131).1
    obtain ⟨rv132, T132, L132, X132, q132, st132⟩ := own_st X131 hx hZ (y := (⟨"java/util/Arrays", "copyOfRange", "([BII)[B"⟩ : MethodName)) hown (ow hw 132 rfl) (ow hw 133 rfl) (ow hw 134 rfl) (ow hw 135 rfl) (by decide) (own_bkN (W := 1) (rm23 l Z a0 hw z0 fm0 gl [] t (own_n2 cs) kb101 (32 : Int32) (own_u cs) h131 n0 (Nat.le_trans Z0 Z136) F135 ((own_nu (by omega)).1) (own_jz (n := 2 * cs.length) (by omega)) ((own_capw (by omega)).1) (by rw [own_u_len]; omega) ((own_capw (by omega)).2)) hZ (ow hw 135 rfl) (ow hw 134 rfl) (by decide) (by decide)) e131 (g := (mkF m 91 #[r' x, r' a, .val .null, r' t, i' (own_n cs)] [(.int (own_n2 cs)), (.int 0), (.ref t), (.ref x)])) rfl (by rw [hml]; rfl) (argsL := [(.ref t), (.int (0 : Int32)), (.int (own_n2 cs))]) (rest := [(.ref x)]) rfl (lenOf own_pd30 rfl) rfl (by show 2 * 0 + _ ≤ _; exact Nat.le_of_eq rfl) (hb hby own_d19_91) (by decide) (by decide)
    obtain ⟨Nq132, Kp132, ⟨b_137, kb2_138, rfl, z139, f140⟩⟩ := q132
    have N132 := Fr.app N131 Nq132
    refine go _ _ (st132) ?_
    have K142 : Keep h131 T132.heap [] := (Keep.refl h131 []).trans Kp132 all0
    have F143 : Fld Z T132.heap x "java/lang/String" "value" "[B" .null := ((Vx.other W131 (Or.inr (RoadKit.slot_ne (t := (.array .byte)) (t' := .byte) (Or.inr (ow hw 8 rfl)) (Or.inr (ow hw 9 rfl)) (by decide) (by decide) (by decide)))).keep K142 nin0)
    have F144 : Exa Z T132.heap x "java/lang/String" := ((Ex.wr W131).keep K142)
    obtain ⟨T141, h141, X141, e141, W141, st141⟩ := putF X132 hx hZ hown (host := "") (Or.inl (ow hw 51 rfl)) Via.refl rfl F143 F144 (Or.inr ⟨(ow hw 8 rfl), rfl, hnm⟩) (ow hw 6 rfl) (ty := (.array .byte)) (by decide) rfl rfl (g := (mkF m 94 #[r' x, r' a, .val .null, r' t, i' (own_n cs)] [(.ref b_137), (.ref x)])) rfl rfl (hb hby own_d19_94)
    have F145 : Fld Z T132.heap x "java/lang/String" "coder" "B" (.int (1 : Int32)) := ((Cx.same W131).keep K142 nin0)
    have N141 := Fr.snoc X141 N132 gz_x
    refine go _ _ (st141) ?_
    show G (T141.setTop (mkF m 97 #[r' x, r' a, .val .null, r' t, i' (own_n cs)] []))
    have K146 : Keep h0 T132.heap [x] := K133.trans Kp132 all0
    have K147 : Keep h0 h141 [x] := K146.wr W141 (Or.inl (List.mem_of_getElem? (i := 0) rfl))
    have K148 : Keep T132.heap h141 [x] := (Keep.refl T132.heap [x]).wr W141 (Or.inl (List.mem_of_getElem? (i := 0) rfl))
    have F149 : Arv Z h141 b_137 kb2_138 .byte (own_n2 cs) (own_u cs) (.int (0 : Int32)) := (f140.keep K148 (ninS (Ne.symm (Nat.ne_of_lt (Nat.lt_of_lt_of_le (Cx.same W131).lt z139))) nin0))
    have Sx : own_S Z h141 x cs := ⟨_, _, (F144.wr W141), (F143.same W141), bc101, (by omega), (Or.inr ⟨(F145.other W141 (Or.inr (RoadKit.slot_ne (t := .byte) (t' := (.array .byte)) (Or.inr (ow hw 9 rfl)) (Or.inr (ow hw 8 rfl)) (by decide) (by decide) (by decide)))), F149⟩)⟩
    refine fin T141 _ _ _ none X141 (fun _ => rfl) (by decide) (by decide) (by rw [e141]; exact ⟨N141, K147, ⟨rfl, (F144.wr W141), Sx⟩⟩) _ (own_retV X141 hx hret (hb hby own_d19_97))
theorem own_d18_0 : decode jdk_42_method_53_code 0 = .ok (.aload_n 0, 1) := by decide +kernel
theorem own_d18_1 : decode jdk_42_method_53_code 1 = .ok (.aload_n 1, 1) := by decide +kernel
theorem own_d18_2 : decode jdk_42_method_53_code 2 = .ok (.aconst_null, 1) := by decide +kernel
theorem own_pd32 : parseMethodDescriptor "(Ljava/lang/AbstractStringBuilder;Ljava/lang/Void;)V" = some ⟨[(.object "java/lang/AbstractStringBuilder"), (.object "java/lang/Void")], none⟩ := by decide +kernel
theorem own_d18_3 : decode jdk_42_method_53_code 3 = .ok (.invokespecial 489, 3) := by decide +kernel
theorem own_d18_6 : decode jdk_42_method_53_code 6 = .ok (.return_, 1) := by decide +kernel
set_option maxHeartbeats 4000000 in
theorem own_ef_rm18 (m : MethodId) (x0 : Addr) (x1 : Addr) : entryFrame m #[(.ref x0), (.ref x1)] 2 = mkF m 0 #[.val (.ref x0), .val (.ref x1)] [] := by rfl
set_option maxRecDepth 65536 in
set_option maxHeartbeats 40000000 in
theorem rm18 (l : Launch) (Z : State) (a0 : Array Value) (hw : ∀ d ∈ tables_1, d.before a0 Z = true) (z0 : Int32) (fm0 : Value) (gl : own_Gl Z z0 fm0) (ws : List Jvm.Cond) (x : Addr) (a : Addr) (t : Addr) (cs : List Int32) (h0 : Heap) (n0 : Nat) (Z0 : n0 ≤ h0.size) (Ex : Exa Z h0 x "java/lang/String") (Vx : Fld Z h0 x "java/lang/String" "value" "[B" .null) (Cx : Fld Z h0 x "java/lang/String" "coder" "B" (.int (0 : Int32))) (Xo : Old Z n0 h0) (Ba : own_B Z h0 a t cs) (hl : cs.length ≤ 15) (gz_x : n0 ≤ x) :
    own_MetN l Z (⟨"java/lang/String", "<init>", "(Ljava/lang/StringBuilder;)V"⟩ : MethodName) jdk_42_method_53_code 2 none ws ({ frames := 4, cells := 1, slots := 32, locals := 74 } : Room) #[(.ref x), (.ref a)] h0 (fun v h L => Fr n0 L ∧ Keep h0 h [x] ∧ (((v = none) ∧ (Exa Z h x "java/lang/String") ∧ (own_S Z h x cs)))) := by
  refine own_metN (plainFor_of_name own_pn0) ?_
  intro p e s m below meth c s₁ G hx hby hml hZ hown hnm hret X0 e0 go fin
  obtain ⟨O2, P5, O4, R4, O_ad, O_hi, O_lo⟩ := id gl
  have N0 := Fr.nil n0
  refine go _ _ (fun _ k => castTop (own_ef_rm18 m x a) k) ?_
  show G (s₁.setTop (mkF m 0 #[r' x, r' a] []))
  refine go _ _ (fun _ k => XS.aloadN X0.here hx rfl (hb hby own_d18_0) rfl rfl (XS.aloadN X0.here hx rfl (hb hby own_d18_1) rfl rfl (XS.aconstNull X0.here hx rfl (hb hby own_d18_2) k))) ?_
  obtain ⟨rv101, T101, L101, X101, q101, st101⟩ := own_sp X0 hx hZ (y := (⟨"java/lang/String", "<init>", "(Ljava/lang/AbstractStringBuilder;Ljava/lang/Void;)V"⟩ : MethodName)) rfl hown (ow hw 114 rfl) (ow hw 115 rfl) (ow hw 116 rfl) (by decide) (own_bkN (W := 0) (rm19 l Z a0 hw z0 fm0 gl [] x a t cs h0 n0 Z0 Ex Vx Cx Xo Ba hl gz_x) hZ (ow hw 116 rfl) (ow hw 5 rfl) (by decide) (by decide)) e0 (g := (mkF m 3 #[r' x, r' a] [.null, (.ref a), (.ref x)])) rfl (by rw [hml]; rfl) (a := x) (argsL := [(.ref a), .null]) (rest := []) rfl (lenOf own_pd32 rfl) rfl (by show 2 * 0 + _ ≤ _; exact Nat.le_of_eq rfl) (hb hby own_d18_3) (by decide) (by decide)
  obtain ⟨Nq101, Kp101, ⟨rfl, f102, f103⟩⟩ := q101
  have N101 := Fr.app N0 Nq101
  refine go _ _ (st101) ?_
  show G (T101.setTop (mkF m 6 #[r' x, r' a] []))
  have K104 : Keep h0 T101.heap [x] := (Keep.refl h0 [x]).trans Kp101 (allS (Or.inl (List.mem_of_getElem? (i := 0) rfl)) all0)
  refine fin T101 _ _ _ none X101 (fun _ => rfl) (by decide) (by decide) ⟨N101, K104, ⟨rfl, f102, f103⟩⟩ _ (own_retV X101 hx hret (hb hby own_d18_6))
theorem own_d17_0 : decode jdk_67_method_42_code 0 = .ok (.new 18, 3) := by decide +kernel
theorem own_d17_3 : decode jdk_67_method_42_code 3 = .ok (.dup, 1) := by decide +kernel
theorem own_d17_4 : decode jdk_67_method_42_code 4 = .ok (.aload_n 0, 1) := by decide +kernel
theorem own_pd33 : parseMethodDescriptor "(Ljava/lang/StringBuilder;)V" = some ⟨[(.object "java/lang/StringBuilder")], none⟩ := by decide +kernel
theorem own_d17_5 : decode jdk_67_method_42_code 5 = .ok (.invokespecial 137, 3) := by decide +kernel
theorem own_d17_8 : decode jdk_67_method_42_code 8 = .ok (.areturn, 1) := by decide +kernel
set_option maxHeartbeats 4000000 in
theorem own_ef_rm17 (m : MethodId) (x0 : Addr) : entryFrame m #[(.ref x0)] 1 = mkF m 0 #[.val (.ref x0)] [] := by rfl
set_option maxRecDepth 65536 in
set_option maxHeartbeats 40000000 in
theorem rm17 (l : Launch) (Z : State) (a0 : Array Value) (hw : ∀ d ∈ tables_1, d.before a0 Z = true) (z0 : Int32) (fm0 : Value) (gl : own_Gl Z z0 fm0) (ws : List Jvm.Cond) (a : Addr) (t : Addr) (cs : List Int32) (h0 : Heap) (n0 : Nat) (Z0 : n0 ≤ h0.size) (Xo : Old Z n0 h0) (Ba : own_B Z h0 a t cs) (hl : cs.length ≤ 15) :
    own_MetN l Z (⟨"java/lang/StringBuilder", "toString", "()Ljava/lang/String;"⟩ : MethodName) jdk_67_method_42_code 1 (some (.object "java/lang/String")) ws ({ frames := 5, cells := 2, slots := 36, locals := 88 } : Room) #[(.ref a)] h0 (fun v h L => Fr n0 L ∧ Keep h0 h [] ∧ ((∃ (b : Addr), (v = some (.ref b)) ∧ (h0.size ≤ b) ∧ (Exa Z h b "java/lang/String") ∧ (own_S Z h b cs)))) := by
  refine own_metN (plainFor_of_name own_pn5) ?_
  intro p e s m below meth c s₁ G hx hby hml hZ hown hnm hret X0 e0 go fin
  obtain ⟨O2, P5, O4, R4, O_ad, O_hi, O_lo⟩ := id gl
  have N0 := Fr.nil n0
  refine go _ _ (fun _ k => castTop (own_ef_rm17 m a) k) ?_
  obtain ⟨T101, h101, X101, e101, E101, A101, D101, -, st101⟩ := newO X0 hx hZ hown (ow hw 109 rfl) (ow hw 6 rfl) (ow hw 5 rfl) e0 (g := (mkF m 0 #[r' a] [])) rfl (hb hby own_d17_0) (by decide) (by decide)
  obtain ⟨b101, g101⟩ : ∃ z, z = h0.size := ⟨_, rfl⟩
  rw [← g101] at A101 D101 st101
  refine go _ _ (st101) ?_
  show G (T101.setTop (mkF m 3 #[r' a] [(.ref b101)]))
  refine go _ _ (fun _ k => XS.dup X101.here hx rfl (hb hby own_d17_3) rfl rfl (XS.aloadN X101.here hx rfl (hb hby own_d17_4) rfl rfl k)) ?_
  have K103 : Keep h0 h101 [] := (Keep.refl h0 []).ext E101
  have F104 : Old Z n0 h101 := (Xo.keep K103 all0)
  have F105 : own_B Z h101 a t cs := (own_B_keep Ba K103)
  have Z106 : h0.size ≤ h101.size := E101.1
  obtain ⟨rv102, T102, L102, X102, q102, st102⟩ := own_sp X101 hx hZ (y := (⟨"java/lang/String", "<init>", "(Ljava/lang/StringBuilder;)V"⟩ : MethodName)) rfl hown (ow hw 110 rfl) (ow hw 111 rfl) (ow hw 113 rfl) (by decide) (own_bkN (W := 1) (rm18 l Z a0 hw z0 fm0 gl [] b101 a t cs h101 n0 (Nat.le_trans Z0 Z106) A101 (D101 (Or.inr (ow hw 8 rfl)) (ty := (.array .byte)) (by decide)) (D101 (Or.inr (ow hw 9 rfl)) (ty := .byte) (by decide)) F104 F105 hl (Nat.le_trans Z0 (Nat.le_of_eq g101.symm))) hZ (ow hw 113 rfl) (ow hw 5 rfl) (by decide) (by decide)) e101 (g := (mkF m 5 #[r' a] [(.ref a), (.ref b101), (.ref b101)])) rfl (by rw [hml]; rfl) (a := b101) (argsL := [(.ref a)]) (rest := [(.ref b101)]) rfl (lenOf own_pd33 rfl) rfl (by show 2 * 0 + _ ≤ _; exact Nat.le_of_eq rfl) (hb hby own_d17_5) (by decide) (by decide)
  obtain ⟨Nq102, Kp102, ⟨rfl, f107, f108⟩⟩ := q102
  have N102 := Fr.app N0 Nq102
  refine go _ _ (st102) ?_
  show G (T102.setTop (mkF m 8 #[r' a] [(.ref b101)]))
  have K109 : Keep h0 T102.heap [] := K103.trans Kp102 (allS (Or.inr (Nat.le_of_eq g101.symm)) all0)
  refine fin T102 _ _ _ (some (.ref b101)) X102 (fun q => nomatch q) (by decide) (by decide) ⟨N102, K109, ⟨b101, rfl, (Nat.le_of_eq g101.symm), f107, f108⟩⟩ _ (own_retA X102 hx hret rfl rfl rfl (hb hby own_d17_8))
theorem own_pn8 : plainName "com/example/naslov/naslov/Uri" = true := by decide +kernel
theorem own_d1_0 : decode prog_10_method_28_code 0 = .ok (.aload_n 1, 1) := by decide +kernel
theorem own_d1_1 : decode prog_10_method_28_code 1 = .ok (.ifnonnull 5, 3) := by decide +kernel
theorem own_d1_4 : decode prog_10_method_28_code 4 = .ok (.aconst_null, 1) := by decide +kernel
theorem own_d1_5 : decode prog_10_method_28_code 5 = .ok (.areturn, 1) := by decide +kernel
set_option maxHeartbeats 4000000 in
theorem own_ef_rmJn (m : MethodId) (x0 : Value) (q0 : x0.isRef = true) (x2 : Value) (q2 : x2.isRef = true) : entryFrame m #[x0, .null, x2] 4 = mkF m 0 #[.val x0, .val .null, .val x2, .unset] [] := by simp [entryFrame, mkF, argsToLocals, own_catR, own_catI, own_catN, own_catJ, own_cat q0, own_cat q2]
set_option maxRecDepth 65536 in
set_option maxHeartbeats 40000000 in
theorem rmJn (l : Launch) (Z : State) (a0 : Array Value) (hw : ∀ d ∈ tables_1, d.before a0 Z = true) (z0 : Int32) (fm0 : Value) (gl : own_Gl Z z0 fm0) (ws : List Jvm.Cond) (v1 : Value) (v3 : Value) (h0 : Heap) (n0 : Nat) (Z0 : n0 ≤ h0.size) (r1 : v1.isRef = true) (r3 : v3.isRef = true) :
    own_MetN l Z (⟨"com/example/naslov/naslov/Uri", "joinAuthority", "(Ljava/lang/String;Ljava/lang/String;Ljava/lang/String;)Ljava/lang/String;"⟩ : MethodName) prog_10_method_28_code 4 (some (.object "java/lang/String")) ws ({ frames := 0, cells := 0, slots := 0, locals := 0 } : Room) #[v1, .null, v3] h0 (fun v h L => Fr n0 L ∧ h = h0 ∧ (((v = some .null)))) := by
  refine own_metN (plainFor_of_name own_pn8) ?_
  intro p e s m below meth c s₁ G hx hby hml hZ hown hnm hret X0 e0 go fin
  obtain ⟨O2, P5, O4, R4, O_ad, O_hi, O_lo⟩ := id gl
  have N0 := Fr.nil n0
  refine go _ _ (fun _ k => castTop (own_ef_rmJn m v1 r1 v3 r3) k) ?_
  show G (s₁.setTop (mkF m 0 #[.val v1, .val .null, .val v3, u'] []))
  refine go _ _ (fun _ k => XS.aloadN X0.here hx rfl (hb hby own_d1_0) rfl rfl k) ?_
  show G (s₁.setTop (mkF m 1 #[.val v1, .val .null, .val v3, u'] [.null]))
  refine go _ _ (fun _ k => XS.ifnonnullNo X0.here hx rfl (hb hby own_d1_1) rfl k) ?_
  show G (s₁.setTop (mkF m 4 #[.val v1, .val .null, .val v3, u'] []))
  refine go _ _ (fun _ k => XS.aconstNull X0.here hx rfl (hb hby own_d1_4) k) ?_
  show G (s₁.setTop (mkF m 5 #[.val v1, .val .null, .val v3, u'] [.null]))
  refine fin s₁ _ _ _ (some .null) X0 (fun q => nomatch q) (by decide) (by decide) (by rw [e0]; exact ⟨N0, rfl, rfl⟩) _ (own_retA X0 hx hret rfl rfl rfl (hb hby own_d1_5))
theorem own_d1_6 : decode prog_10_method_28_code 6 = .ok (.new 207, 3) := by decide +kernel
theorem own_d1_9 : decode prog_10_method_28_code 9 = .ok (.dup, 1) := by decide +kernel
theorem own_d1_10 : decode prog_10_method_28_code 10 = .ok (.invokespecial 209, 3) := by decide +kernel
theorem own_d1_13 : decode prog_10_method_28_code 13 = .ok (.astore_n 3, 1) := by decide +kernel
theorem own_d1_14 : decode prog_10_method_28_code 14 = .ok (.aload_n 0, 1) := by decide +kernel
theorem own_d1_15 : decode prog_10_method_28_code 15 = .ok (.ifnull 14, 3) := by decide +kernel
theorem own_d1_29 : decode prog_10_method_28_code 29 = .ok (.aload_n 3, 1) := by decide +kernel
theorem own_d1_30 : decode prog_10_method_28_code 30 = .ok (.aload_n 1, 1) := by decide +kernel
theorem own_pd34 : parseMethodDescriptor "(Ljava/lang/String;)Ljava/lang/StringBuilder;" = some ⟨[(.object "java/lang/String")], some (.object "java/lang/StringBuilder")⟩ := by decide +kernel
theorem own_d1_31 : decode prog_10_method_28_code 31 = .ok (.invokevirtual 210, 3) := by decide +kernel
theorem own_d1_34 : decode prog_10_method_28_code 34 = .ok (.pop, 1) := by decide +kernel
theorem own_d1_35 : decode prog_10_method_28_code 35 = .ok (.aload_n 2, 1) := by decide +kernel
theorem own_d1_36 : decode prog_10_method_28_code 36 = .ok (.ifnull 14, 3) := by decide +kernel
theorem own_d1_50 : decode prog_10_method_28_code 50 = .ok (.aload_n 3, 1) := by decide +kernel
theorem own_pd35 : parseMethodDescriptor "()Ljava/lang/String;" = some ⟨[], some (.object "java/lang/String")⟩ := by decide +kernel
theorem own_d1_51 : decode prog_10_method_28_code 51 = .ok (.invokevirtual 217, 3) := by decide +kernel
theorem own_d1_54 : decode prog_10_method_28_code 54 = .ok (.areturn, 1) := by decide +kernel
set_option maxHeartbeats 4000000 in
theorem own_ef_rmJ00 (m : MethodId) (x1 : Addr) : entryFrame m #[.null, (.ref x1), .null] 4 = mkF m 0 #[.val .null, .val (.ref x1), .val .null, .unset] [] := by rfl
set_option maxRecDepth 65536 in
set_option maxHeartbeats 40000000 in
theorem rmJ00 (l : Launch) (Z : State) (a0 : Array Value) (hw : ∀ d ∈ tables_1, d.before a0 Z = true) (z0 : Int32) (fm0 : Value) (gl : own_Gl Z z0 fm0) (ws : List Jvm.Cond) (hh : Addr) (hs : List Int32) (h0 : Heap) (n0 : Nat) (Z0 : n0 ≤ h0.size) (Xo : Old Z n0 h0) (Ehh : Exa Z h0 hh "java/lang/String") (Shh : own_S Z h0 hh hs) (lhs : hs.length ≤ 2) :
    own_MetN l Z (⟨"com/example/naslov/naslov/Uri", "joinAuthority", "(Ljava/lang/String;Ljava/lang/String;Ljava/lang/String;)Ljava/lang/String;"⟩ : MethodName) prog_10_method_28_code 4 (some (.object "java/lang/String")) ws ({ frames := 10, cells := 5, slots := 88, locals := 143 } : Room) #[.null, (.ref hh), .null] h0 (fun v h L => Fr n0 L ∧ Keep h0 h [] ∧ ((∃ (b : Addr), (v = some (.ref b)) ∧ (h0.size ≤ b) ∧ (Exa Z h b "java/lang/String") ∧ (own_S Z h b hs)))) := by
  refine own_metN (plainFor_of_name own_pn8) ?_
  intro p e s m below meth c s₁ G hx hby hml hZ hown hnm hret X0 e0 go fin
  obtain ⟨O2, P5, O4, R4, O_ad, O_hi, O_lo⟩ := id gl
  have N0 := Fr.nil n0
  refine go _ _ (fun _ k => castTop (own_ef_rmJ00 m hh) k) ?_
  show G (s₁.setTop (mkF m 0 #[.val .null, r' hh, .val .null, u'] []))
  refine go _ _ (fun _ k => XS.aloadN X0.here hx rfl (hb hby own_d1_0) rfl rfl k) ?_
  show G (s₁.setTop (mkF m 1 #[.val .null, r' hh, .val .null, u'] [(.ref hh)]))
  refine go _ _ (fun _ k => XS.ifnonnullYes X0.here hx rfl (pc0 := 1) (pc' := 6) rfl (hb hby own_d1_1) rfl (by decide) (by decide) k) ?_
  obtain ⟨T101, h101, X101, e101, E101, A101, D101, -, st101⟩ := newO X0 hx hZ hown (ow hw 16 rfl) (ow hw 17 rfl) (ow hw 18 rfl) e0 (g := (mkF m 6 #[.val .null, r' hh, .val .null, u'] [])) rfl (hb hby own_d1_6) (by decide) (by decide)
  obtain ⟨b101, g101⟩ : ∃ z, z = h0.size := ⟨_, rfl⟩
  rw [← g101] at A101 D101 st101
  refine go _ _ (st101) ?_
  show G (T101.setTop (mkF m 9 #[.val .null, r' hh, .val .null, u'] [(.ref b101)]))
  refine go _ _ (fun _ k => XS.dup X101.here hx rfl (hb hby own_d1_9) rfl rfl k) ?_
  have K103 : Keep h0 h101 [] := (Keep.refl h0 []).ext E101
  have F104 : Old Z n0 h101 := (Xo.keep K103 all0)
  have Z105 : h0.size ≤ h101.size := E101.1
  obtain ⟨rv102, T102, L102, X102, q102, st102⟩ := own_sp X101 hx hZ (y := (⟨"java/lang/StringBuilder", "<init>", "()V"⟩ : MethodName)) rfl hown (ow hw 19 rfl) (ow hw 20 rfl) (ow hw 21 rfl) (by decide) (own_bkN (W := 1) (rm2 l Z a0 hw z0 fm0 gl [] b101 h101 n0 (Nat.le_trans Z0 Z105) F104 A101 (D101 (Or.inl (ow hw 33 rfl)) (ty := (.array .byte)) (by decide)) (D101 (Or.inl (ow hw 35 rfl)) (ty := .byte) (by decide)) (D101 (Or.inl (ow hw 60 rfl)) (ty := .int) (by decide)) (D101 (Or.inl (ow hw 256 rfl)) (ty := .boolean) (by decide)) (Nat.le_trans Z0 (Nat.le_of_eq g101.symm))) hZ (ow hw 21 rfl) (ow hw 18 rfl) (by decide) (by decide)) e101 (g := (mkF m 10 #[.val .null, r' hh, .val .null, u'] [(.ref b101), (.ref b101)])) rfl (by rw [hml]; rfl) (a := b101) (argsL := []) (rest := [(.ref b101)]) rfl (lenOf own_pd23 rfl) rfl (by show 2 * 0 + _ ≤ _; exact Nat.le_of_eq rfl) (hb hby own_d1_10) (by decide) (by decide)
  obtain ⟨Nq102, Kp102, ⟨t_106, rfl, z107, f108⟩⟩ := q102
  have N102 := Fr.app N0 Nq102
  refine go _ _ (st102) ?_
  show G (T102.setTop (mkF m 13 #[.val .null, r' hh, .val .null, u'] [(.ref b101)]))
  refine go _ _ (fun _ k => XS.astoreN X102.here hx rfl (hb hby own_d1_13) rfl rfl (l' := #[.val .null, r' hh, .val .null, r' b101]) rfl (XS.aloadN X102.here hx rfl (hb hby own_d1_14) rfl rfl k)) ?_
  show G (T102.setTop (mkF m 15 #[.val .null, r' hh, .val .null, r' b101] [.null]))
  refine go _ _ (fun _ k => XS.ifnullYes X102.here hx rfl (pc0 := 15) (pc' := 29) rfl (hb hby own_d1_15) rfl (by decide) (by decide) k) ?_
  show G (T102.setTop (mkF m 29 #[.val .null, r' hh, .val .null, r' b101] []))
  refine go _ _ (fun _ k => XS.aloadN X102.here hx rfl (hb hby own_d1_29) rfl rfl (XS.aloadN X102.here hx rfl (hb hby own_d1_30) rfl rfl k)) ?_
  have K110 : Keep h0 T102.heap [] := K103.trans Kp102 (allS (Or.inr (Nat.le_of_eq g101.symm)) all0)
  have SF109 : own_SF Z T102.heap hh hs t_106 := own_SF_of Shh (Nat.le_trans Z105 z107) K110
  have K112 : Keep h101 T102.heap [b101] := (Keep.refl h101 [b101]).trans Kp102 (allS (Or.inl (List.mem_of_getElem? (i := 0) rfl)) all0)
  have F113 : Old Z n0 T102.heap := (F104.keep K112 (allS (Nat.le_trans Z0 (Nat.le_of_eq g101.symm)) all0))
  have Z114 : h0.size ≤ T102.heap.size := Nat.le_trans Z105 Kp102.1
  have F115 : Exa Z T102.heap b101 "java/lang/StringBuilder" := (A101.keep K112)
  obtain ⟨rv111, T111, L111, X111, q111, st111⟩ := own_vi X102 hx hZ (y := (⟨"java/lang/StringBuilder", "append", "(Ljava/lang/String;)Ljava/lang/StringBuilder;"⟩ : MethodName)) (z := (⟨"java/lang/StringBuilder", "append", "(Ljava/lang/String;)Ljava/lang/StringBuilder;"⟩ : MethodName)) hown (ow hw 36 rfl) (ow hw 37 rfl) (ow hw 39 rfl) (ow hw 38 rfl) (Or.inl rfl) (by decide) (own_bkN (W := 0) (rm5 l Z a0 hw z0 fm0 gl [] b101 hh t_106 ([] : List Int32) hs T102.heap n0 (Nat.le_trans Z0 Z114) F113 f108 SF109 (by simp only [List.length_append, List.length_cons, List.length_nil] <;> omega) (Nat.le_trans Z0 (Nat.le_of_eq g101.symm)) (Nat.le_trans (Nat.le_trans Z0 Z105) z107)) hZ (ow hw 40 rfl) (ow hw 18 rfl) (by decide) (by decide)) rfl F115 (g := (mkF m 31 #[.val .null, r' hh, .val .null, r' b101] [(.ref hh), (.ref b101)])) rfl (by rw [hml]; rfl) (argsL := [(.ref hh)]) (rest := []) rfl (lenOf own_pd34 rfl) rfl (by show 2 * 0 + _ ≤ _; exact Nat.le_of_eq rfl) (hb hby own_d1_31) (by decide) (by decide)
  obtain ⟨Nq111, Kp111, ⟨t2_116, rfl, p117, f118⟩⟩ := q111
  have N111 := Fr.app N102 Nq111
  have lt119 : h0.size ≤ t2_116 := own_t2 p117 (Nat.le_trans Z105 z107) Z114
  refine go _ _ (st111) ?_
  show G (T111.setTop (mkF m 34 #[.val .null, r' hh, .val .null, r' b101] [(.ref b101)]))
  refine go _ _ (fun _ k => XS.pop X111.here hx rfl (hb hby own_d1_34) rfl rfl (XS.aloadN X111.here hx rfl (hb hby own_d1_35) rfl rfl k)) ?_
  show G (T111.setTop (mkF m 36 #[.val .null, r' hh, .val .null, r' b101] [.null]))
  refine go _ _ (fun _ k => XS.ifnullYes X111.here hx rfl (pc0 := 36) (pc' := 50) rfl (hb hby own_d1_36) rfl (by decide) (by decide) k) ?_
  show G (T111.setTop (mkF m 50 #[.val .null, r' hh, .val .null, r' b101] []))
  refine go _ _ (fun _ k => XS.aloadN X111.here hx rfl (hb hby own_d1_50) rfl rfl k) ?_
  have K121 : Keep T102.heap T111.heap [b101, t_106] := (Keep.refl T102.heap [b101, t_106]).trans Kp111 (allS (Or.inl (List.mem_of_getElem? (i := 0) rfl)) (allS (Or.inl (List.mem_of_getElem? (i := 1) rfl)) all0))
  have F122 : Old Z n0 T111.heap := (F113.keep K121 (allS (Nat.le_trans Z0 (Nat.le_of_eq g101.symm)) (allS (Nat.le_trans (Nat.le_trans Z0 Z105) z107) all0)))
  have Z123 : h0.size ≤ T111.heap.size := Nat.le_trans Z114 Kp111.1
  obtain ⟨rv120, T120, L120, X120, q120, st120⟩ := own_vi X111 hx hZ (y := (⟨"java/lang/StringBuilder", "toString", "()Ljava/lang/String;"⟩ : MethodName)) (z := (⟨"java/lang/StringBuilder", "toString", "()Ljava/lang/String;"⟩ : MethodName)) hown (ow hw 104 rfl) (ow hw 105 rfl) (ow hw 107 rfl) (ow hw 106 rfl) (Or.inl rfl) (by decide) (own_bkN (W := 0) (rm17 l Z a0 hw z0 fm0 gl [] b101 t2_116 (([] : List Int32) ++ hs) T111.heap n0 (Nat.le_trans Z0 Z123) F122 f118 (by simp only [List.length_append, List.length_cons, List.length_nil] <;> omega)) hZ (ow hw 108 rfl) (ow hw 18 rfl) (by decide) (by decide)) rfl f118.1 (g := (mkF m 51 #[.val .null, r' hh, .val .null, r' b101] [(.ref b101)])) rfl (by rw [hml]; rfl) (argsL := []) (rest := []) rfl (lenOf own_pd35 rfl) rfl (by show 2 * 0 + _ ≤ _; exact Nat.le_of_eq rfl) (hb hby own_d1_51) (by decide) (by decide)
  obtain ⟨Nq120, Kp120, ⟨b_124, rfl, z125, f126, f127⟩⟩ := q120
  have N120 := Fr.app N111 Nq120
  refine go _ _ (st120) ?_
  show G (T120.setTop (mkF m 54 #[.val .null, r' hh, .val .null, r' b101] [(.ref b_124)]))
  have K128 : Keep h0 T111.heap [] := K110.trans Kp111 (allS (Or.inr (Nat.le_of_eq g101.symm)) (allS (Or.inr (Nat.le_trans Z105 z107)) all0))
  have K129 : Keep h0 T120.heap [] := K128.trans Kp120 all0
  have qj : (([] : List Int32) ++ hs) = hs := by simp
  have Sj : own_S Z T120.heap b_124 hs := by rw [← qj]; exact f127
  refine fin T120 _ _ _ (some (.ref b_124)) X120 (fun q => nomatch q) (by decide) (by decide) ⟨N120, K129, ⟨b_124, rfl, (Nat.le_trans Z123 z125), f126, Sj⟩⟩ _ (own_retA X120 hx hret rfl rfl rfl (hb hby own_d1_54))
theorem own_d1_39 : decode prog_10_method_28_code 39 = .ok (.aload_n 3, 1) := by decide +kernel
theorem own_d1_40 : decode prog_10_method_28_code 40 = .ok (.bipush 58, 2) := by decide +kernel
theorem own_pd36 : parseMethodDescriptor "(C)Ljava/lang/StringBuilder;" = some ⟨[.char], some (.object "java/lang/StringBuilder")⟩ := by decide +kernel
theorem own_d1_42 : decode prog_10_method_28_code 42 = .ok (.invokevirtual 214, 3) := by decide +kernel
theorem own_d1_45 : decode prog_10_method_28_code 45 = .ok (.aload_n 2, 1) := by decide +kernel
theorem own_d1_46 : decode prog_10_method_28_code 46 = .ok (.invokevirtual 210, 3) := by decide +kernel
theorem own_d1_49 : decode prog_10_method_28_code 49 = .ok (.pop, 1) := by decide +kernel
set_option maxHeartbeats 4000000 in
theorem own_ef_rmJ01 (m : MethodId) (x1 : Addr) (x2 : Addr) : entryFrame m #[.null, (.ref x1), (.ref x2)] 4 = mkF m 0 #[.val .null, .val (.ref x1), .val (.ref x2), .unset] [] := by rfl
set_option maxRecDepth 65536 in
set_option maxHeartbeats 40000000 in
theorem rmJ01 (l : Launch) (Z : State) (a0 : Array Value) (hw : ∀ d ∈ tables_1, d.before a0 Z = true) (z0 : Int32) (fm0 : Value) (gl : own_Gl Z z0 fm0) (ws : List Jvm.Cond) (hh : Addr) (pp : Addr) (hs : List Int32) (ps : List Int32) (h0 : Heap) (n0 : Nat) (Z0 : n0 ≤ h0.size) (Xo : Old Z n0 h0) (Ehh : Exa Z h0 hh "java/lang/String") (Shh : own_S Z h0 hh hs) (lhs : hs.length ≤ 2) (Epp : Exa Z h0 pp "java/lang/String") (Spp : own_S Z h0 pp ps) (lps : ps.length ≤ 2) :
    own_MetN l Z (⟨"com/example/naslov/naslov/Uri", "joinAuthority", "(Ljava/lang/String;Ljava/lang/String;Ljava/lang/String;)Ljava/lang/String;"⟩ : MethodName) prog_10_method_28_code 4 (some (.object "java/lang/String")) ws ({ frames := 10, cells := 6, slots := 120, locals := 143 } : Room) #[.null, (.ref hh), (.ref pp)] h0 (fun v h L => Fr n0 L ∧ Keep h0 h [] ∧ ((∃ (b : Addr), (v = some (.ref b)) ∧ (h0.size ≤ b) ∧ (Exa Z h b "java/lang/String") ∧ (own_S Z h b (hs ++ (58 : Int32) :: ps))))) := by
  refine own_metN (plainFor_of_name own_pn8) ?_
  intro p e s m below meth c s₁ G hx hby hml hZ hown hnm hret X0 e0 go fin
  obtain ⟨O2, P5, O4, R4, O_ad, O_hi, O_lo⟩ := id gl
  have N0 := Fr.nil n0
  refine go _ _ (fun _ k => castTop (own_ef_rmJ01 m hh pp) k) ?_
  show G (s₁.setTop (mkF m 0 #[.val .null, r' hh, r' pp, u'] []))
  refine go _ _ (fun _ k => XS.aloadN X0.here hx rfl (hb hby own_d1_0) rfl rfl k) ?_
  show G (s₁.setTop (mkF m 1 #[.val .null, r' hh, r' pp, u'] [(.ref hh)]))
  refine go _ _ (fun _ k => XS.ifnonnullYes X0.here hx rfl (pc0 := 1) (pc' := 6) rfl (hb hby own_d1_1) rfl (by decide) (by decide) k) ?_
  obtain ⟨T101, h101, X101, e101, E101, A101, D101, -, st101⟩ := newO X0 hx hZ hown (ow hw 16 rfl) (ow hw 17 rfl) (ow hw 18 rfl) e0 (g := (mkF m 6 #[.val .null, r' hh, r' pp, u'] [])) rfl (hb hby own_d1_6) (by decide) (by decide)
  obtain ⟨b101, g101⟩ : ∃ z, z = h0.size := ⟨_, rfl⟩
  rw [← g101] at A101 D101 st101
  refine go _ _ (st101) ?_
  show G (T101.setTop (mkF m 9 #[.val .null, r' hh, r' pp, u'] [(.ref b101)]))
  refine go _ _ (fun _ k => XS.dup X101.here hx rfl (hb hby own_d1_9) rfl rfl k) ?_
  have K103 : Keep h0 h101 [] := (Keep.refl h0 []).ext E101
  have F104 : Old Z n0 h101 := (Xo.keep K103 all0)
  have Z105 : h0.size ≤ h101.size := E101.1
  obtain ⟨rv102, T102, L102, X102, q102, st102⟩ := own_sp X101 hx hZ (y := (⟨"java/lang/StringBuilder", "<init>", "()V"⟩ : MethodName)) rfl hown (ow hw 19 rfl) (ow hw 20 rfl) (ow hw 21 rfl) (by decide) (own_bkN (W := 1) (rm2 l Z a0 hw z0 fm0 gl [] b101 h101 n0 (Nat.le_trans Z0 Z105) F104 A101 (D101 (Or.inl (ow hw 33 rfl)) (ty := (.array .byte)) (by decide)) (D101 (Or.inl (ow hw 35 rfl)) (ty := .byte) (by decide)) (D101 (Or.inl (ow hw 60 rfl)) (ty := .int) (by decide)) (D101 (Or.inl (ow hw 256 rfl)) (ty := .boolean) (by decide)) (Nat.le_trans Z0 (Nat.le_of_eq g101.symm))) hZ (ow hw 21 rfl) (ow hw 18 rfl) (by decide) (by decide)) e101 (g := (mkF m 10 #[.val .null, r' hh, r' pp, u'] [(.ref b101), (.ref b101)])) rfl (by rw [hml]; rfl) (a := b101) (argsL := []) (rest := [(.ref b101)]) rfl (lenOf own_pd23 rfl) rfl (by show 2 * 0 + _ ≤ _; exact Nat.le_of_eq rfl) (hb hby own_d1_10) (by decide) (by decide)
  obtain ⟨Nq102, Kp102, ⟨t_106, rfl, z107, f108⟩⟩ := q102
  have N102 := Fr.app N0 Nq102
  refine go _ _ (st102) ?_
  show G (T102.setTop (mkF m 13 #[.val .null, r' hh, r' pp, u'] [(.ref b101)]))
  refine go _ _ (fun _ k => XS.astoreN X102.here hx rfl (hb hby own_d1_13) rfl rfl (l' := #[.val .null, r' hh, r' pp, r' b101]) rfl (XS.aloadN X102.here hx rfl (hb hby own_d1_14) rfl rfl k)) ?_
  show G (T102.setTop (mkF m 15 #[.val .null, r' hh, r' pp, r' b101] [.null]))
  refine go _ _ (fun _ k => XS.ifnullYes X102.here hx rfl (pc0 := 15) (pc' := 29) rfl (hb hby own_d1_15) rfl (by decide) (by decide) k) ?_
  show G (T102.setTop (mkF m 29 #[.val .null, r' hh, r' pp, r' b101] []))
  refine go _ _ (fun _ k => XS.aloadN X102.here hx rfl (hb hby own_d1_29) rfl rfl (XS.aloadN X102.here hx rfl (hb hby own_d1_30) rfl rfl k)) ?_
  have K110 : Keep h0 T102.heap [] := K103.trans Kp102 (allS (Or.inr (Nat.le_of_eq g101.symm)) all0)
  have SF109 : own_SF Z T102.heap hh hs t_106 := own_SF_of Shh (Nat.le_trans Z105 z107) K110
  have K112 : Keep h101 T102.heap [b101] := (Keep.refl h101 [b101]).trans Kp102 (allS (Or.inl (List.mem_of_getElem? (i := 0) rfl)) all0)
  have F113 : Old Z n0 T102.heap := (F104.keep K112 (allS (Nat.le_trans Z0 (Nat.le_of_eq g101.symm)) all0))
  have Z114 : h0.size ≤ T102.heap.size := Nat.le_trans Z105 Kp102.1
  have F115 : Exa Z T102.heap b101 "java/lang/StringBuilder" := (A101.keep K112)
  obtain ⟨rv111, T111, L111, X111, q111, st111⟩ := own_vi X102 hx hZ (y := (⟨"java/lang/StringBuilder", "append", "(Ljava/lang/String;)Ljava/lang/StringBuilder;"⟩ : MethodName)) (z := (⟨"java/lang/StringBuilder", "append", "(Ljava/lang/String;)Ljava/lang/StringBuilder;"⟩ : MethodName)) hown (ow hw 36 rfl) (ow hw 37 rfl) (ow hw 39 rfl) (ow hw 38 rfl) (Or.inl rfl) (by decide) (own_bkN (W := 0) (rm5 l Z a0 hw z0 fm0 gl [] b101 hh t_106 ([] : List Int32) hs T102.heap n0 (Nat.le_trans Z0 Z114) F113 f108 SF109 (by simp only [List.length_append, List.length_cons, List.length_nil] <;> omega) (Nat.le_trans Z0 (Nat.le_of_eq g101.symm)) (Nat.le_trans (Nat.le_trans Z0 Z105) z107)) hZ (ow hw 40 rfl) (ow hw 18 rfl) (by decide) (by decide)) rfl F115 (g := (mkF m 31 #[.val .null, r' hh, r' pp, r' b101] [(.ref hh), (.ref b101)])) rfl (by rw [hml]; rfl) (argsL := [(.ref hh)]) (rest := []) rfl (lenOf own_pd34 rfl) rfl (by show 2 * 0 + _ ≤ _; exact Nat.le_of_eq rfl) (hb hby own_d1_31) (by decide) (by decide)
  obtain ⟨Nq111, Kp111, ⟨t2_116, rfl, p117, f118⟩⟩ := q111
  have N111 := Fr.app N102 Nq111
  have lt119 : h0.size ≤ t2_116 := own_t2 p117 (Nat.le_trans Z105 z107) Z114
  refine go _ _ (st111) ?_
  show G (T111.setTop (mkF m 34 #[.val .null, r' hh, r' pp, r' b101] [(.ref b101)]))
  refine go _ _ (fun _ k => XS.pop X111.here hx rfl (hb hby own_d1_34) rfl rfl (XS.aloadN X111.here hx rfl (hb hby own_d1_35) rfl rfl k)) ?_
  show G (T111.setTop (mkF m 36 #[.val .null, r' hh, r' pp, r' b101] [(.ref pp)]))
  refine go _ _ (fun _ k => XS.ifnullNo X111.here hx rfl (hb hby own_d1_36) rfl k) ?_
  show G (T111.setTop (mkF m 39 #[.val .null, r' hh, r' pp, r' b101] []))
  refine go _ _ (fun _ k => XS.aloadN X111.here hx rfl (hb hby own_d1_39) rfl rfl (XS.bipush X111.here hx rfl (hb hby own_d1_40) k)) ?_
  have K121 : Keep T102.heap T111.heap [b101, t_106] := (Keep.refl T102.heap [b101, t_106]).trans Kp111 (allS (Or.inl (List.mem_of_getElem? (i := 0) rfl)) (allS (Or.inl (List.mem_of_getElem? (i := 1) rfl)) all0))
  have F122 : Old Z n0 T111.heap := (F113.keep K121 (allS (Nat.le_trans Z0 (Nat.le_of_eq g101.symm)) (allS (Nat.le_trans (Nat.le_trans Z0 Z105) z107) all0)))
  have Z123 : h0.size ≤ T111.heap.size := Nat.le_trans Z114 Kp111.1
  obtain ⟨rv120, T120, L120, X120, q120, st120⟩ := own_vi X111 hx hZ (y := (⟨"java/lang/StringBuilder", "append", "(C)Ljava/lang/StringBuilder;"⟩ : MethodName)) (z := (⟨"java/lang/StringBuilder", "append", "(C)Ljava/lang/StringBuilder;"⟩ : MethodName)) hown (ow hw 86 rfl) (ow hw 87 rfl) (ow hw 89 rfl) (ow hw 88 rfl) (Or.inl rfl) (by decide) (own_bkN (W := 0) (rm13 l Z a0 hw z0 fm0 gl [] b101 (58 : Int32) t2_116 (([] : List Int32) ++ hs) T111.heap n0 (Nat.le_trans Z0 Z123) F122 f118 (by decide) (by decide) (by simp only [List.length_append, List.length_cons, List.length_nil] <;> omega) (Nat.le_trans Z0 (Nat.le_of_eq g101.symm)) (Nat.le_trans Z0 lt119)) hZ (ow hw 90 rfl) (ow hw 18 rfl) (by decide) (by decide)) rfl f118.1 (g := (mkF m 42 #[.val .null, r' hh, r' pp, r' b101] [(.int 58), (.ref b101)])) rfl (by rw [hml]; rfl) (argsL := [(.int (58 : Int32))]) (rest := []) rfl (lenOf own_pd36 rfl) rfl (by show 2 * 0 + _ ≤ _; exact Nat.le_of_eq rfl) (hb hby own_d1_42) (by decide) (by decide)
  obtain ⟨Nq120, Kp120, ⟨rfl, f124⟩⟩ := q120
  have N120 := Fr.app N111 Nq120
  refine go _ _ (st120) ?_
  show G (T120.setTop (mkF m 45 #[.val .null, r' hh, r' pp, r' b101] [(.ref b101)]))
  refine go _ _ (fun _ k => XS.aloadN X120.here hx rfl (hb hby own_d1_45) rfl rfl k) ?_
  have K126 : Keep h0 T111.heap [] := K110.trans Kp111 (allS (Or.inr (Nat.le_of_eq g101.symm)) (allS (Or.inr (Nat.le_trans Z105 z107)) all0))
  have K127 : Keep h0 T120.heap [] := K126.trans Kp120 (allS (Or.inr (Nat.le_of_eq g101.symm)) (allS (Or.inr lt119) all0))
  have SF125 : own_SF Z T120.heap pp ps t2_116 := own_SF_of Spp lt119 K127
  have K129 : Keep T111.heap T120.heap [b101, t2_116] := (Keep.refl T111.heap [b101, t2_116]).trans Kp120 (allS (Or.inl (List.mem_of_getElem? (i := 0) rfl)) (allS (Or.inl (List.mem_of_getElem? (i := 1) rfl)) all0))
  have F130 : Old Z n0 T120.heap := (F122.keep K129 (allS (Nat.le_trans Z0 (Nat.le_of_eq g101.symm)) (allS (Nat.le_trans Z0 lt119) all0)))
  have Z131 : h0.size ≤ T120.heap.size := Nat.le_trans Z123 Kp120.1
  obtain ⟨rv128, T128, L128, X128, q128, st128⟩ := own_vi X120 hx hZ (y := (⟨"java/lang/StringBuilder", "append", "(Ljava/lang/String;)Ljava/lang/StringBuilder;"⟩ : MethodName)) (z := (⟨"java/lang/StringBuilder", "append", "(Ljava/lang/String;)Ljava/lang/StringBuilder;"⟩ : MethodName)) hown (ow hw 36 rfl) (ow hw 37 rfl) (ow hw 39 rfl) (ow hw 38 rfl) (Or.inl rfl) (by decide) (own_bkN (W := 0) (rm5 l Z a0 hw z0 fm0 gl [] b101 pp t2_116 ((([] : List Int32) ++ hs) ++ [(58 : Int32)]) ps T120.heap n0 (Nat.le_trans Z0 Z131) F130 f124 SF125 (by simp only [List.length_append, List.length_cons, List.length_nil] <;> omega) (Nat.le_trans Z0 (Nat.le_of_eq g101.symm)) (Nat.le_trans Z0 lt119)) hZ (ow hw 40 rfl) (ow hw 18 rfl) (by decide) (by decide)) rfl f124.1 (g := (mkF m 46 #[.val .null, r' hh, r' pp, r' b101] [(.ref pp), (.ref b101)])) rfl (by rw [hml]; rfl) (argsL := [(.ref pp)]) (rest := []) rfl (lenOf own_pd34 rfl) rfl (by show 2 * 0 + _ ≤ _; exact Nat.le_of_eq rfl) (hb hby own_d1_46) (by decide) (by decide)
  obtain ⟨Nq128, Kp128, ⟨t2_132, rfl, p133, f134⟩⟩ := q128
  have N128 := Fr.app N120 Nq128
  have lt135 : h0.size ≤ t2_132 := own_t2 p133 lt119 Z131
  refine go _ _ (st128) ?_
  show G (T128.setTop (mkF m 49 #[.val .null, r' hh, r' pp, r' b101] [(.ref b101)]))
  refine go _ _ (fun _ k => XS.pop X128.here hx rfl (hb hby own_d1_49) rfl rfl (XS.aloadN X128.here hx rfl (hb hby own_d1_50) rfl rfl k)) ?_
  have K137 : Keep T120.heap T128.heap [b101, t2_116] := (Keep.refl T120.heap [b101, t2_116]).trans Kp128 (allS (Or.inl (List.mem_of_getElem? (i := 0) rfl)) (allS (Or.inl (List.mem_of_getElem? (i := 1) rfl)) all0))
  have F138 : Old Z n0 T128.heap := (F130.keep K137 (allS (Nat.le_trans Z0 (Nat.le_of_eq g101.symm)) (allS (Nat.le_trans Z0 lt119) all0)))
  have Z139 : h0.size ≤ T128.heap.size := Nat.le_trans Z131 Kp128.1
  obtain ⟨rv136, T136, L136, X136, q136, st136⟩ := own_vi X128 hx hZ (y := (⟨"java/lang/StringBuilder", "toString", "()Ljava/lang/String;"⟩ : MethodName)) (z := (⟨"java/lang/StringBuilder", "toString", "()Ljava/lang/String;"⟩ : MethodName)) hown (ow hw 104 rfl) (ow hw 105 rfl) (ow hw 107 rfl) (ow hw 106 rfl) (Or.inl rfl) (by decide) (own_bkN (W := 0) (rm17 l Z a0 hw z0 fm0 gl [] b101 t2_132 (((([] : List Int32) ++ hs) ++ [(58 : Int32)]) ++ ps) T128.heap n0 (Nat.le_trans Z0 Z139) F138 f134 (by simp only [List.length_append, List.length_cons, List.length_nil] <;> omega)) hZ (ow hw 108 rfl) (ow hw 18 rfl) (by decide) (by decide)) rfl f134.1 (g := (mkF m 51 #[.val .null, r' hh, r' pp, r' b101] [(.ref b101)])) rfl (by rw [hml]; rfl) (argsL := []) (rest := []) rfl (lenOf own_pd35 rfl) rfl (by show 2 * 0 + _ ≤ _; exact Nat.le_of_eq rfl) (hb hby own_d1_51) (by decide) (by decide)
  obtain ⟨Nq136, Kp136, ⟨b_140, rfl, z141, f142, f143⟩⟩ := q136
  have N136 := Fr.app N128 Nq136
  refine go _ _ (st136) ?_
  show G (T136.setTop (mkF m 54 #[.val .null, r' hh, r' pp, r' b101] [(.ref b_140)]))
  have K144 : Keep h0 T128.heap [] := K127.trans Kp128 (allS (Or.inr (Nat.le_of_eq g101.symm)) (allS (Or.inr lt119) all0))
  have K145 : Keep h0 T136.heap [] := K144.trans Kp136 all0
  have qj : (((([] : List Int32) ++ hs) ++ [(58 : Int32)]) ++ ps) = (hs ++ (58 : Int32) :: ps) := by simp
  have Sj : own_S Z T136.heap b_140 (hs ++ (58 : Int32) :: ps) := by rw [← qj]; exact f143
  refine fin T136 _ _ _ (some (.ref b_140)) X136 (fun q => nomatch q) (by decide) (by decide) ⟨N136, K145, ⟨b_140, rfl, (Nat.le_trans Z139 z141), f142, Sj⟩⟩ _ (own_retA X136 hx hret rfl rfl rfl (hb hby own_d1_54))
theorem own_d1_18 : decode prog_10_method_28_code 18 = .ok (.aload_n 3, 1) := by decide +kernel
theorem own_d1_19 : decode prog_10_method_28_code 19 = .ok (.aload_n 0, 1) := by decide +kernel
theorem own_d1_20 : decode prog_10_method_28_code 20 = .ok (.invokevirtual 210, 3) := by decide +kernel
theorem own_d1_23 : decode prog_10_method_28_code 23 = .ok (.bipush 64, 2) := by decide +kernel
theorem own_d1_25 : decode prog_10_method_28_code 25 = .ok (.invokevirtual 214, 3) := by decide +kernel
theorem own_d1_28 : decode prog_10_method_28_code 28 = .ok (.pop, 1) := by decide +kernel
set_option maxHeartbeats 4000000 in
theorem own_ef_rmJ10 (m : MethodId) (x0 : Addr) (x1 : Addr) : entryFrame m #[(.ref x0), (.ref x1), .null] 4 = mkF m 0 #[.val (.ref x0), .val (.ref x1), .val .null, .unset] [] := by rfl
set_option maxRecDepth 65536 in
set_option maxHeartbeats 40000000 in
theorem rmJ10 (l : Launch) (Z : State) (a0 : Array Value) (hw : ∀ d ∈ tables_1, d.before a0 Z = true) (z0 : Int32) (fm0 : Value) (gl : own_Gl Z z0 fm0) (ws : List Jvm.Cond) (uu : Addr) (hh : Addr) (us : List Int32) (hs : List Int32) (h0 : Heap) (n0 : Nat) (Z0 : n0 ≤ h0.size) (Xo : Old Z n0 h0) (Euu : Exa Z h0 uu "java/lang/String") (Suu : own_S Z h0 uu us) (lus : us.length ≤ 2) (Ehh : Exa Z h0 hh "java/lang/String") (Shh : own_S Z h0 hh hs) (lhs : hs.length ≤ 2) :
    own_MetN l Z (⟨"com/example/naslov/naslov/Uri", "joinAuthority", "(Ljava/lang/String;Ljava/lang/String;Ljava/lang/String;)Ljava/lang/String;"⟩ : MethodName) prog_10_method_28_code 4 (some (.object "java/lang/String")) ws ({ frames := 10, cells := 6, slots := 120, locals := 143 } : Room) #[(.ref uu), (.ref hh), .null] h0 (fun v h L => Fr n0 L ∧ Keep h0 h [] ∧ ((∃ (b : Addr), (v = some (.ref b)) ∧ (h0.size ≤ b) ∧ (Exa Z h b "java/lang/String") ∧ (own_S Z h b (us ++ (64 : Int32) :: hs))))) := by
  refine own_metN (plainFor_of_name own_pn8) ?_
  intro p e s m below meth c s₁ G hx hby hml hZ hown hnm hret X0 e0 go fin
  obtain ⟨O2, P5, O4, R4, O_ad, O_hi, O_lo⟩ := id gl
  have N0 := Fr.nil n0
  refine go _ _ (fun _ k => castTop (own_ef_rmJ10 m uu hh) k) ?_
  show G (s₁.setTop (mkF m 0 #[r' uu, r' hh, .val .null, u'] []))
  refine go _ _ (fun _ k => XS.aloadN X0.here hx rfl (hb hby own_d1_0) rfl rfl k) ?_
  show G (s₁.setTop (mkF m 1 #[r' uu, r' hh, .val .null, u'] [(.ref hh)]))
  refine go _ _ (fun _ k => XS.ifnonnullYes X0.here hx rfl (pc0 := 1) (pc' := 6) rfl (hb hby own_d1_1) rfl (by decide) (by decide) k) ?_
  obtain ⟨T101, h101, X101, e101, E101, A101, D101, -, st101⟩ := newO X0 hx hZ hown (ow hw 16 rfl) (ow hw 17 rfl) (ow hw 18 rfl) e0 (g := (mkF m 6 #[r' uu, r' hh, .val .null, u'] [])) rfl (hb hby own_d1_6) (by decide) (by decide)
  obtain ⟨b101, g101⟩ : ∃ z, z = h0.size := ⟨_, rfl⟩
  rw [← g101] at A101 D101 st101
  refine go _ _ (st101) ?_
  show G (T101.setTop (mkF m 9 #[r' uu, r' hh, .val .null, u'] [(.ref b101)]))
  refine go _ _ (fun _ k => XS.dup X101.here hx rfl (hb hby own_d1_9) rfl rfl k) ?_
  have K103 : Keep h0 h101 [] := (Keep.refl h0 []).ext E101
  have F104 : Old Z n0 h101 := (Xo.keep K103 all0)
  have Z105 : h0.size ≤ h101.size := E101.1
  obtain ⟨rv102, T102, L102, X102, q102, st102⟩ := own_sp X101 hx hZ (y := (⟨"java/lang/StringBuilder", "<init>", "()V"⟩ : MethodName)) rfl hown (ow hw 19 rfl) (ow hw 20 rfl) (ow hw 21 rfl) (by decide) (own_bkN (W := 1) (rm2 l Z a0 hw z0 fm0 gl [] b101 h101 n0 (Nat.le_trans Z0 Z105) F104 A101 (D101 (Or.inl (ow hw 33 rfl)) (ty := (.array .byte)) (by decide)) (D101 (Or.inl (ow hw 35 rfl)) (ty := .byte) (by decide)) (D101 (Or.inl (ow hw 60 rfl)) (ty := .int) (by decide)) (D101 (Or.inl (ow hw 256 rfl)) (ty := .boolean) (by decide)) (Nat.le_trans Z0 (Nat.le_of_eq g101.symm))) hZ (ow hw 21 rfl) (ow hw 18 rfl) (by decide) (by decide)) e101 (g := (mkF m 10 #[r' uu, r' hh, .val .null, u'] [(.ref b101), (.ref b101)])) rfl (by rw [hml]; rfl) (a := b101) (argsL := []) (rest := [(.ref b101)]) rfl (lenOf own_pd23 rfl) rfl (by show 2 * 0 + _ ≤ _; exact Nat.le_of_eq rfl) (hb hby own_d1_10) (by decide) (by decide)
  obtain ⟨Nq102, Kp102, ⟨t_106, rfl, z107, f108⟩⟩ := q102
  have N102 := Fr.app N0 Nq102
  refine go _ _ (st102) ?_
  show G (T102.setTop (mkF m 13 #[r' uu, r' hh, .val .null, u'] [(.ref b101)]))
  refine go _ _ (fun _ k => XS.astoreN X102.here hx rfl (hb hby own_d1_13) rfl rfl (l' := #[r' uu, r' hh, .val .null, r' b101]) rfl (XS.aloadN X102.here hx rfl (hb hby own_d1_14) rfl rfl k)) ?_
  show G (T102.setTop (mkF m 15 #[r' uu, r' hh, .val .null, r' b101] [(.ref uu)]))
  refine go _ _ (fun _ k => XS.ifnullNo X102.here hx rfl (hb hby own_d1_15) rfl k) ?_
  show G (T102.setTop (mkF m 18 #[r' uu, r' hh, .val .null, r' b101] []))
  refine go _ _ (fun _ k => XS.aloadN X102.here hx rfl (hb hby own_d1_18) rfl rfl (XS.aloadN X102.here hx rfl (hb hby own_d1_19) rfl rfl k)) ?_
  have K110 : Keep h0 T102.heap [] := K103.trans Kp102 (allS (Or.inr (Nat.le_of_eq g101.symm)) all0)
  have SF109 : own_SF Z T102.heap uu us t_106 := own_SF_of Suu (Nat.le_trans Z105 z107) K110
  have K112 : Keep h101 T102.heap [b101] := (Keep.refl h101 [b101]).trans Kp102 (allS (Or.inl (List.mem_of_getElem? (i := 0) rfl)) all0)
  have F113 : Old Z n0 T102.heap := (F104.keep K112 (allS (Nat.le_trans Z0 (Nat.le_of_eq g101.symm)) all0))
  have Z114 : h0.size ≤ T102.heap.size := Nat.le_trans Z105 Kp102.1
  have F115 : Exa Z T102.heap b101 "java/lang/StringBuilder" := (A101.keep K112)
  obtain ⟨rv111, T111, L111, X111, q111, st111⟩ := own_vi X102 hx hZ (y := (⟨"java/lang/StringBuilder", "append", "(Ljava/lang/String;)Ljava/lang/StringBuilder;"⟩ : MethodName)) (z := (⟨"java/lang/StringBuilder", "append", "(Ljava/lang/String;)Ljava/lang/StringBuilder;"⟩ : MethodName)) hown (ow hw 36 rfl) (ow hw 37 rfl) (ow hw 39 rfl) (ow hw 38 rfl) (Or.inl rfl) (by decide) (own_bkN (W := 0) (rm5 l Z a0 hw z0 fm0 gl [] b101 uu t_106 ([] : List Int32) us T102.heap n0 (Nat.le_trans Z0 Z114) F113 f108 SF109 (by simp only [List.length_append, List.length_cons, List.length_nil] <;> omega) (Nat.le_trans Z0 (Nat.le_of_eq g101.symm)) (Nat.le_trans (Nat.le_trans Z0 Z105) z107)) hZ (ow hw 40 rfl) (ow hw 18 rfl) (by decide) (by decide)) rfl F115 (g := (mkF m 20 #[r' uu, r' hh, .val .null, r' b101] [(.ref uu), (.ref b101)])) rfl (by rw [hml]; rfl) (argsL := [(.ref uu)]) (rest := []) rfl (lenOf own_pd34 rfl) rfl (by show 2 * 0 + _ ≤ _; exact Nat.le_of_eq rfl) (hb hby own_d1_20) (by decide) (by decide)
  obtain ⟨Nq111, Kp111, ⟨t2_116, rfl, p117, f118⟩⟩ := q111
  have N111 := Fr.app N102 Nq111
  have lt119 : h0.size ≤ t2_116 := own_t2 p117 (Nat.le_trans Z105 z107) Z114
  refine go _ _ (st111) ?_
  show G (T111.setTop (mkF m 23 #[r' uu, r' hh, .val .null, r' b101] [(.ref b101)]))
  refine go _ _ (fun _ k => XS.bipush X111.here hx rfl (hb hby own_d1_23) k) ?_
  have K121 : Keep T102.heap T111.heap [b101, t_106] := (Keep.refl T102.heap [b101, t_106]).trans Kp111 (allS (Or.inl (List.mem_of_getElem? (i := 0) rfl)) (allS (Or.inl (List.mem_of_getElem? (i := 1) rfl)) all0))
  have F122 : Old Z n0 T111.heap := (F113.keep K121 (allS (Nat.le_trans Z0 (Nat.le_of_eq g101.symm)) (allS (Nat.le_trans (Nat.le_trans Z0 Z105) z107) all0)))
  have Z123 : h0.size ≤ T111.heap.size := Nat.le_trans Z114 Kp111.1
  obtain ⟨rv120, T120, L120, X120, q120, st120⟩ := own_vi X111 hx hZ (y := (⟨"java/lang/StringBuilder", "append", "(C)Ljava/lang/StringBuilder;"⟩ : MethodName)) (z := (⟨"java/lang/StringBuilder", "append", "(C)Ljava/lang/StringBuilder;"⟩ : MethodName)) hown (ow hw 86 rfl) (ow hw 87 rfl) (ow hw 89 rfl) (ow hw 88 rfl) (Or.inl rfl) (by decide) (own_bkN (W := 0) (rm13 l Z a0 hw z0 fm0 gl [] b101 (64 : Int32) t2_116 (([] : List Int32) ++ us) T111.heap n0 (Nat.le_trans Z0 Z123) F122 f118 (by decide) (by decide) (by simp only [List.length_append, List.length_cons, List.length_nil] <;> omega) (Nat.le_trans Z0 (Nat.le_of_eq g101.symm)) (Nat.le_trans Z0 lt119)) hZ (ow hw 90 rfl) (ow hw 18 rfl) (by decide) (by decide)) rfl f118.1 (g := (mkF m 25 #[r' uu, r' hh, .val .null, r' b101] [(.int 64), (.ref b101)])) rfl (by rw [hml]; rfl) (argsL := [(.int (64 : Int32))]) (rest := []) rfl (lenOf own_pd36 rfl) rfl (by show 2 * 0 + _ ≤ _; exact Nat.le_of_eq rfl) (hb hby own_d1_25) (by decide) (by decide)
  obtain ⟨Nq120, Kp120, ⟨rfl, f124⟩⟩ := q120
  have N120 := Fr.app N111 Nq120
  refine go _ _ (st120) ?_
  show G (T120.setTop (mkF m 28 #[r' uu, r' hh, .val .null, r' b101] [(.ref b101)]))
  refine go _ _ (fun _ k => XS.pop X120.here hx rfl (hb hby own_d1_28) rfl rfl (XS.aloadN X120.here hx rfl (hb hby own_d1_29) rfl rfl (XS.aloadN X120.here hx rfl (hb hby own_d1_30) rfl rfl k))) ?_
  have K126 : Keep h0 T111.heap [] := K110.trans Kp111 (allS (Or.inr (Nat.le_of_eq g101.symm)) (allS (Or.inr (Nat.le_trans Z105 z107)) all0))
  have K127 : Keep h0 T120.heap [] := K126.trans Kp120 (allS (Or.inr (Nat.le_of_eq g101.symm)) (allS (Or.inr lt119) all0))
  have SF125 : own_SF Z T120.heap hh hs t2_116 := own_SF_of Shh lt119 K127
  have K129 : Keep T111.heap T120.heap [b101, t2_116] := (Keep.refl T111.heap [b101, t2_116]).trans Kp120 (allS (Or.inl (List.mem_of_getElem? (i := 0) rfl)) (allS (Or.inl (List.mem_of_getElem? (i := 1) rfl)) all0))
  have F130 : Old Z n0 T120.heap := (F122.keep K129 (allS (Nat.le_trans Z0 (Nat.le_of_eq g101.symm)) (allS (Nat.le_trans Z0 lt119) all0)))
  have Z131 : h0.size ≤ T120.heap.size := Nat.le_trans Z123 Kp120.1
  obtain ⟨rv128, T128, L128, X128, q128, st128⟩ := own_vi X120 hx hZ (y := (⟨"java/lang/StringBuilder", "append", "(Ljava/lang/String;)Ljava/lang/StringBuilder;"⟩ : MethodName)) (z := (⟨"java/lang/StringBuilder", "append", "(Ljava/lang/String;)Ljava/lang/StringBuilder;"⟩ : MethodName)) hown (ow hw 36 rfl) (ow hw 37 rfl) (ow hw 39 rfl) (ow hw 38 rfl) (Or.inl rfl) (by decide) (own_bkN (W := 0) (rm5 l Z a0 hw z0 fm0 gl [] b101 hh t2_116 ((([] : List Int32) ++ us) ++ [(64 : Int32)]) hs T120.heap n0 (Nat.le_trans Z0 Z131) F130 f124 SF125 (by simp only [List.length_append, List.length_cons, List.length_nil] <;> omega) (Nat.le_trans Z0 (Nat.le_of_eq g101.symm)) (Nat.le_trans Z0 lt119)) hZ (ow hw 40 rfl) (ow hw 18 rfl) (by decide) (by decide)) rfl f124.1 (g := (mkF m 31 #[r' uu, r' hh, .val .null, r' b101] [(.ref hh), (.ref b101)])) rfl (by rw [hml]; rfl) (argsL := [(.ref hh)]) (rest := []) rfl (lenOf own_pd34 rfl) rfl (by show 2 * 0 + _ ≤ _; exact Nat.le_of_eq rfl) (hb hby own_d1_31) (by decide) (by decide)
  obtain ⟨Nq128, Kp128, ⟨t2_132, rfl, p133, f134⟩⟩ := q128
  have N128 := Fr.app N120 Nq128
  have lt135 : h0.size ≤ t2_132 := own_t2 p133 lt119 Z131
  refine go _ _ (st128) ?_
  show G (T128.setTop (mkF m 34 #[r' uu, r' hh, .val .null, r' b101] [(.ref b101)]))
  refine go _ _ (fun _ k => XS.pop X128.here hx rfl (hb hby own_d1_34) rfl rfl (XS.aloadN X128.here hx rfl (hb hby own_d1_35) rfl rfl k)) ?_
  show G (T128.setTop (mkF m 36 #[r' uu, r' hh, .val .null, r' b101] [.null]))
  refine go _ _ (fun _ k => XS.ifnullYes X128.here hx rfl (pc0 := 36) (pc' := 50) rfl (hb hby own_d1_36) rfl (by decide) (by decide) k) ?_
  show G (T128.setTop (mkF m 50 #[r' uu, r' hh, .val .null, r' b101] []))
  refine go _ _ (fun _ k => XS.aloadN X128.here hx rfl (hb hby own_d1_50) rfl rfl k) ?_
  have K137 : Keep T120.heap T128.heap [b101, t2_116] := (Keep.refl T120.heap [b101, t2_116]).trans Kp128 (allS (Or.inl (List.mem_of_getElem? (i := 0) rfl)) (allS (Or.inl (List.mem_of_getElem? (i := 1) rfl)) all0))
  have F138 : Old Z n0 T128.heap := (F130.keep K137 (allS (Nat.le_trans Z0 (Nat.le_of_eq g101.symm)) (allS (Nat.le_trans Z0 lt119) all0)))
  have Z139 : h0.size ≤ T128.heap.size := Nat.le_trans Z131 Kp128.1
  obtain ⟨rv136, T136, L136, X136, q136, st136⟩ := own_vi X128 hx hZ (y := (⟨"java/lang/StringBuilder", "toString", "()Ljava/lang/String;"⟩ : MethodName)) (z := (⟨"java/lang/StringBuilder", "toString", "()Ljava/lang/String;"⟩ : MethodName)) hown (ow hw 104 rfl) (ow hw 105 rfl) (ow hw 107 rfl) (ow hw 106 rfl) (Or.inl rfl) (by decide) (own_bkN (W := 0) (rm17 l Z a0 hw z0 fm0 gl [] b101 t2_132 (((([] : List Int32) ++ us) ++ [(64 : Int32)]) ++ hs) T128.heap n0 (Nat.le_trans Z0 Z139) F138 f134 (by simp only [List.length_append, List.length_cons, List.length_nil] <;> omega)) hZ (ow hw 108 rfl) (ow hw 18 rfl) (by decide) (by decide)) rfl f134.1 (g := (mkF m 51 #[r' uu, r' hh, .val .null, r' b101] [(.ref b101)])) rfl (by rw [hml]; rfl) (argsL := []) (rest := []) rfl (lenOf own_pd35 rfl) rfl (by show 2 * 0 + _ ≤ _; exact Nat.le_of_eq rfl) (hb hby own_d1_51) (by decide) (by decide)
  obtain ⟨Nq136, Kp136, ⟨b_140, rfl, z141, f142, f143⟩⟩ := q136
  have N136 := Fr.app N128 Nq136
  refine go _ _ (st136) ?_
  show G (T136.setTop (mkF m 54 #[r' uu, r' hh, .val .null, r' b101] [(.ref b_140)]))
  have K144 : Keep h0 T128.heap [] := K127.trans Kp128 (allS (Or.inr (Nat.le_of_eq g101.symm)) (allS (Or.inr lt119) all0))
  have K145 : Keep h0 T136.heap [] := K144.trans Kp136 all0
  have qj : (((([] : List Int32) ++ us) ++ [(64 : Int32)]) ++ hs) = (us ++ (64 : Int32) :: hs) := by simp
  have Sj : own_S Z T136.heap b_140 (us ++ (64 : Int32) :: hs) := by rw [← qj]; exact f143
  refine fin T136 _ _ _ (some (.ref b_140)) X136 (fun q => nomatch q) (by decide) (by decide) ⟨N136, K145, ⟨b_140, rfl, (Nat.le_trans Z139 z141), f142, Sj⟩⟩ _ (own_retA X136 hx hret rfl rfl rfl (hb hby own_d1_54))
set_option maxHeartbeats 4000000 in
theorem own_ef_rmJ11 (m : MethodId) (x0 : Addr) (x1 : Addr) (x2 : Addr) : entryFrame m #[(.ref x0), (.ref x1), (.ref x2)] 4 = mkF m 0 #[.val (.ref x0), .val (.ref x1), .val (.ref x2), .unset] [] := by rfl
set_option maxRecDepth 65536 in
set_option maxHeartbeats 40000000 in
theorem rmJ11 (l : Launch) (Z : State) (a0 : Array Value) (hw : ∀ d ∈ tables_1, d.before a0 Z = true) (z0 : Int32) (fm0 : Value) (gl : own_Gl Z z0 fm0) (ws : List Jvm.Cond) (uu : Addr) (hh : Addr) (pp : Addr) (us : List Int32) (hs : List Int32) (ps : List Int32) (h0 : Heap) (n0 : Nat) (Z0 : n0 ≤ h0.size) (Xo : Old Z n0 h0) (Euu : Exa Z h0 uu "java/lang/String") (Suu : own_S Z h0 uu us) (lus : us.length ≤ 2) (Ehh : Exa Z h0 hh "java/lang/String") (Shh : own_S Z h0 hh hs) (lhs : hs.length ≤ 2) (Epp : Exa Z h0 pp "java/lang/String") (Spp : own_S Z h0 pp ps) (lps : ps.length ≤ 2) :
    own_MetN l Z (⟨"com/example/naslov/naslov/Uri", "joinAuthority", "(Ljava/lang/String;Ljava/lang/String;Ljava/lang/String;)Ljava/lang/String;"⟩ : MethodName) prog_10_method_28_code 4 (some (.object "java/lang/String")) ws ({ frames := 10, cells := 7, slots := 152, locals := 143 } : Room) #[(.ref uu), (.ref hh), (.ref pp)] h0 (fun v h L => Fr n0 L ∧ Keep h0 h [] ∧ ((∃ (b : Addr), (v = some (.ref b)) ∧ (h0.size ≤ b) ∧ (Exa Z h b "java/lang/String") ∧ (own_S Z h b (us ++ (64 : Int32) :: (hs ++ (58 : Int32) :: ps)))))) := by
  refine own_metN (plainFor_of_name own_pn8) ?_
  intro p e s m below meth c s₁ G hx hby hml hZ hown hnm hret X0 e0 go fin
  obtain ⟨O2, P5, O4, R4, O_ad, O_hi, O_lo⟩ := id gl
  have N0 := Fr.nil n0
  refine go _ _ (fun _ k => castTop (own_ef_rmJ11 m uu hh pp) k) ?_
  show G (s₁.setTop (mkF m 0 #[r' uu, r' hh, r' pp, u'] []))
  refine go _ _ (fun _ k => XS.aloadN X0.here hx rfl (hb hby own_d1_0) rfl rfl k) ?_
  show G (s₁.setTop (mkF m 1 #[r' uu, r' hh, r' pp, u'] [(.ref hh)]))
  refine go _ _ (fun _ k => XS.ifnonnullYes X0.here hx rfl (pc0 := 1) (pc' := 6) rfl (hb hby own_d1_1) rfl (by decide) (by decide) k) ?_
  obtain ⟨T101, h101, X101, e101, E101, A101, D101, -, st101⟩ := newO X0 hx hZ hown (ow hw 16 rfl) (ow hw 17 rfl) (ow hw 18 rfl) e0 (g := (mkF m 6 #[r' uu, r' hh, r' pp, u'] [])) rfl (hb hby own_d1_6) (by decide) (by decide)
  obtain ⟨b101, g101⟩ : ∃ z, z = h0.size := ⟨_, rfl⟩
  rw [← g101] at A101 D101 st101
  refine go _ _ (st101) ?_
  show G (T101.setTop (mkF m 9 #[r' uu, r' hh, r' pp, u'] [(.ref b101)]))
  refine go _ _ (fun _ k => XS.dup X101.here hx rfl (hb hby own_d1_9) rfl rfl k) ?_
  have K103 : Keep h0 h101 [] := (Keep.refl h0 []).ext E101
  have F104 : Old Z n0 h101 := (Xo.keep K103 all0)
  have Z105 : h0.size ≤ h101.size := E101.1
  obtain ⟨rv102, T102, L102, X102, q102, st102⟩ := own_sp X101 hx hZ (y := (⟨"java/lang/StringBuilder", "<init>", "()V"⟩ : MethodName)) rfl hown (ow hw 19 rfl) (ow hw 20 rfl) (ow hw 21 rfl) (by decide) (own_bkN (W := 1) (rm2 l Z a0 hw z0 fm0 gl [] b101 h101 n0 (Nat.le_trans Z0 Z105) F104 A101 (D101 (Or.inl (ow hw 33 rfl)) (ty := (.array .byte)) (by decide)) (D101 (Or.inl (ow hw 35 rfl)) (ty := .byte) (by decide)) (D101 (Or.inl (ow hw 60 rfl)) (ty := .int) (by decide)) (D101 (Or.inl (ow hw 256 rfl)) (ty := .boolean) (by decide)) (Nat.le_trans Z0 (Nat.le_of_eq g101.symm))) hZ (ow hw 21 rfl) (ow hw 18 rfl) (by decide) (by decide)) e101 (g := (mkF m 10 #[r' uu, r' hh, r' pp, u'] [(.ref b101), (.ref b101)])) rfl (by rw [hml]; rfl) (a := b101) (argsL := []) (rest := [(.ref b101)]) rfl (lenOf own_pd23 rfl) rfl (by show 2 * 0 + _ ≤ _; exact Nat.le_of_eq rfl) (hb hby own_d1_10) (by decide) (by decide)
  obtain ⟨Nq102, Kp102, ⟨t_106, rfl, z107, f108⟩⟩ := q102
  have N102 := Fr.app N0 Nq102
  refine go _ _ (st102) ?_
  show G (T102.setTop (mkF m 13 #[r' uu, r' hh, r' pp, u'] [(.ref b101)]))
  refine go _ _ (fun _ k => XS.astoreN X102.here hx rfl (hb hby own_d1_13) rfl rfl (l' := #[r' uu, r' hh, r' pp, r' b101]) rfl (XS.aloadN X102.here hx rfl (hb hby own_d1_14) rfl rfl k)) ?_
  show G (T102.setTop (mkF m 15 #[r' uu, r' hh, r' pp, r' b101] [(.ref uu)]))
  refine go _ _ (fun _ k => XS.ifnullNo X102.here hx rfl (hb hby own_d1_15) rfl k) ?_
  show G (T102.setTop (mkF m 18 #[r' uu, r' hh, r' pp, r' b101] []))
  refine go _ _ (fun _ k => XS.aloadN X102.here hx rfl (hb hby own_d1_18) rfl rfl (XS.aloadN X102.here hx rfl (hb hby own_d1_19) rfl rfl k)) ?_
  have K110 : Keep h0 T102.heap [] := K103.trans Kp102 (allS (Or.inr (Nat.le_of_eq g101.symm)) all0)
  have SF109 : own_SF Z T102.heap uu us t_106 := own_SF_of Suu (Nat.le_trans Z105 z107) K110
  have K112 : Keep h101 T102.heap [b101] := (Keep.refl h101 [b101]).trans Kp102 (allS (Or.inl (List.mem_of_getElem? (i := 0) rfl)) all0)
  have F113 : Old Z n0 T102.heap := (F104.keep K112 (allS (Nat.le_trans Z0 (Nat.le_of_eq g101.symm)) all0))
  have Z114 : h0.size ≤ T102.heap.size := Nat.le_trans Z105 Kp102.1
  have F115 : Exa Z T102.heap b101 "java/lang/StringBuilder" := (A101.keep K112)
  obtain ⟨rv111, T111, L111, X111, q111, st111⟩ := own_vi X102 hx hZ (y := (⟨"java/lang/StringBuilder", "append", "(Ljava/lang/String;)Ljava/lang/StringBuilder;"⟩ : MethodName)) (z := (⟨"java/lang/StringBuilder", "append", "(Ljava/lang/String;)Ljava/lang/StringBuilder;"⟩ : MethodName)) hown (ow hw 36 rfl) (ow hw 37 rfl) (ow hw 39 rfl) (ow hw 38 rfl) (Or.inl rfl) (by decide) (own_bkN (W := 0) (rm5 l Z a0 hw z0 fm0 gl [] b101 uu t_106 ([] : List Int32) us T102.heap n0 (Nat.le_trans Z0 Z114) F113 f108 SF109 (by simp only [List.length_append, List.length_cons, List.length_nil] <;> omega) (Nat.le_trans Z0 (Nat.le_of_eq g101.symm)) (Nat.le_trans (Nat.le_trans Z0 Z105) z107)) hZ (ow hw 40 rfl) (ow hw 18 rfl) (by decide) (by decide)) rfl F115 (g := (mkF m 20 #[r' uu, r' hh, r' pp, r' b101] [(.ref uu), (.ref b101)])) rfl (by rw [hml]; rfl) (argsL := [(.ref uu)]) (rest := []) rfl (lenOf own_pd34 rfl) rfl (by show 2 * 0 + _ ≤ _; exact Nat.le_of_eq rfl) (hb hby own_d1_20) (by decide) (by decide)
  obtain ⟨Nq111, Kp111, ⟨t2_116, rfl, p117, f118⟩⟩ := q111
  have N111 := Fr.app N102 Nq111
  have lt119 : h0.size ≤ t2_116 := own_t2 p117 (Nat.le_trans Z105 z107) Z114
  refine go _ _ (st111) ?_
  show G (T111.setTop (mkF m 23 #[r' uu, r' hh, r' pp, r' b101] [(.ref b101)]))
  refine go _ _ (fun _ k => XS.bipush X111.here hx rfl (hb hby own_d1_23) k) ?_
  have K121 : Keep T102.heap T111.heap [b101, t_106] := (Keep.refl T102.heap [b101, t_106]).trans Kp111 (allS (Or.inl (List.mem_of_getElem? (i := 0) rfl)) (allS (Or.inl (List.mem_of_getElem? (i := 1) rfl)) all0))
  have F122 : Old Z n0 T111.heap := (F113.keep K121 (allS (Nat.le_trans Z0 (Nat.le_of_eq g101.symm)) (allS (Nat.le_trans (Nat.le_trans Z0 Z105) z107) all0)))
  have Z123 : h0.size ≤ T111.heap.size := Nat.le_trans Z114 Kp111.1
  obtain ⟨rv120, T120, L120, X120, q120, st120⟩ := own_vi X111 hx hZ (y := (⟨"java/lang/StringBuilder", "append", "(C)Ljava/lang/StringBuilder;"⟩ : MethodName)) (z := (⟨"java/lang/StringBuilder", "append", "(C)Ljava/lang/StringBuilder;"⟩ : MethodName)) hown (ow hw 86 rfl) (ow hw 87 rfl) (ow hw 89 rfl) (ow hw 88 rfl) (Or.inl rfl) (by decide) (own_bkN (W := 0) (rm13 l Z a0 hw z0 fm0 gl [] b101 (64 : Int32) t2_116 (([] : List Int32) ++ us) T111.heap n0 (Nat.le_trans Z0 Z123) F122 f118 (by decide) (by decide) (by simp only [List.length_append, List.length_cons, List.length_nil] <;> omega) (Nat.le_trans Z0 (Nat.le_of_eq g101.symm)) (Nat.le_trans Z0 lt119)) hZ (ow hw 90 rfl) (ow hw 18 rfl) (by decide) (by decide)) rfl f118.1 (g := (mkF m 25 #[r' uu, r' hh, r' pp, r' b101] [(.int 64), (.ref b101)])) rfl (by rw [hml]; rfl) (argsL := [(.int (64 : Int32))]) (rest := []) rfl (lenOf own_pd36 rfl) rfl (by show 2 * 0 + _ ≤ _; exact Nat.le_of_eq rfl) (hb hby own_d1_25) (by decide) (by decide)
  obtain ⟨Nq120, Kp120, ⟨rfl, f124⟩⟩ := q120
  have N120 := Fr.app N111 Nq120
  refine go _ _ (st120) ?_
  show G (T120.setTop (mkF m 28 #[r' uu, r' hh, r' pp, r' b101] [(.ref b101)]))
  refine go _ _ (fun _ k => XS.pop X120.here hx rfl (hb hby own_d1_28) rfl rfl (XS.aloadN X120.here hx rfl (hb hby own_d1_29) rfl rfl (XS.aloadN X120.here hx rfl (hb hby own_d1_30) rfl rfl k))) ?_
  have K126 : Keep h0 T111.heap [] := K110.trans Kp111 (allS (Or.inr (Nat.le_of_eq g101.symm)) (allS (Or.inr (Nat.le_trans Z105 z107)) all0))
  have K127 : Keep h0 T120.heap [] := K126.trans Kp120 (allS (Or.inr (Nat.le_of_eq g101.symm)) (allS (Or.inr lt119) all0))
  have SF125 : own_SF Z T120.heap hh hs t2_116 := own_SF_of Shh lt119 K127
  have K129 : Keep T111.heap T120.heap [b101, t2_116] := (Keep.refl T111.heap [b101, t2_116]).trans Kp120 (allS (Or.inl (List.mem_of_getElem? (i := 0) rfl)) (allS (Or.inl (List.mem_of_getElem? (i := 1) rfl)) all0))
  have F130 : Old Z n0 T120.heap := (F122.keep K129 (allS (Nat.le_trans Z0 (Nat.le_of_eq g101.symm)) (allS (Nat.le_trans Z0 lt119) all0)))
  have Z131 : h0.size ≤ T120.heap.size := Nat.le_trans Z123 Kp120.1
  obtain ⟨rv128, T128, L128, X128, q128, st128⟩ := own_vi X120 hx hZ (y := (⟨"java/lang/StringBuilder", "append", "(Ljava/lang/String;)Ljava/lang/StringBuilder;"⟩ : MethodName)) (z := (⟨"java/lang/StringBuilder", "append", "(Ljava/lang/String;)Ljava/lang/StringBuilder;"⟩ : MethodName)) hown (ow hw 36 rfl) (ow hw 37 rfl) (ow hw 39 rfl) (ow hw 38 rfl) (Or.inl rfl) (by decide) (own_bkN (W := 0) (rm5 l Z a0 hw z0 fm0 gl [] b101 hh t2_116 ((([] : List Int32) ++ us) ++ [(64 : Int32)]) hs T120.heap n0 (Nat.le_trans Z0 Z131) F130 f124 SF125 (by simp only [List.length_append, List.length_cons, List.length_nil] <;> omega) (Nat.le_trans Z0 (Nat.le_of_eq g101.symm)) (Nat.le_trans Z0 lt119)) hZ (ow hw 40 rfl) (ow hw 18 rfl) (by decide) (by decide)) rfl f124.1 (g := (mkF m 31 #[r' uu, r' hh, r' pp, r' b101] [(.ref hh), (.ref b101)])) rfl (by rw [hml]; rfl) (argsL := [(.ref hh)]) (rest := []) rfl (lenOf own_pd34 rfl) rfl (by show 2 * 0 + _ ≤ _; exact Nat.le_of_eq rfl) (hb hby own_d1_31) (by decide) (by decide)
  obtain ⟨Nq128, Kp128, ⟨t2_132, rfl, p133, f134⟩⟩ := q128
  have N128 := Fr.app N120 Nq128
  have lt135 : h0.size ≤ t2_132 := own_t2 p133 lt119 Z131
  refine go _ _ (st128) ?_
  show G (T128.setTop (mkF m 34 #[r' uu, r' hh, r' pp, r' b101] [(.ref b101)]))
  refine go _ _ (fun _ k => XS.pop X128.here hx rfl (hb hby own_d1_34) rfl rfl (XS.aloadN X128.here hx rfl (hb hby own_d1_35) rfl rfl k)) ?_
  show G (T128.setTop (mkF m 36 #[r' uu, r' hh, r' pp, r' b101] [(.ref pp)]))
  refine go _ _ (fun _ k => XS.ifnullNo X128.here hx rfl (hb hby own_d1_36) rfl k) ?_
  show G (T128.setTop (mkF m 39 #[r' uu, r' hh, r' pp, r' b101] []))
  refine go _ _ (fun _ k => XS.aloadN X128.here hx rfl (hb hby own_d1_39) rfl rfl (XS.bipush X128.here hx rfl (hb hby own_d1_40) k)) ?_
  have K137 : Keep T120.heap T128.heap [b101, t2_116] := (Keep.refl T120.heap [b101, t2_116]).trans Kp128 (allS (Or.inl (List.mem_of_getElem? (i := 0) rfl)) (allS (Or.inl (List.mem_of_getElem? (i := 1) rfl)) all0))
  have F138 : Old Z n0 T128.heap := (F130.keep K137 (allS (Nat.le_trans Z0 (Nat.le_of_eq g101.symm)) (allS (Nat.le_trans Z0 lt119) all0)))
  have Z139 : h0.size ≤ T128.heap.size := Nat.le_trans Z131 Kp128.1
  obtain ⟨rv136, T136, L136, X136, q136, st136⟩ := own_vi X128 hx hZ (y := (⟨"java/lang/StringBuilder", "append", "(C)Ljava/lang/StringBuilder;"⟩ : MethodName)) (z := (⟨"java/lang/StringBuilder", "append", "(C)Ljava/lang/StringBuilder;"⟩ : MethodName)) hown (ow hw 86 rfl) (ow hw 87 rfl) (ow hw 89 rfl) (ow hw 88 rfl) (Or.inl rfl) (by decide) (own_bkN (W := 0) (rm13 l Z a0 hw z0 fm0 gl [] b101 (58 : Int32) t2_132 (((([] : List Int32) ++ us) ++ [(64 : Int32)]) ++ hs) T128.heap n0 (Nat.le_trans Z0 Z139) F138 f134 (by decide) (by decide) (by simp only [List.length_append, List.length_cons, List.length_nil] <;> omega) (Nat.le_trans Z0 (Nat.le_of_eq g101.symm)) (Nat.le_trans Z0 lt135)) hZ (ow hw 90 rfl) (ow hw 18 rfl) (by decide) (by decide)) rfl f134.1 (g := (mkF m 42 #[r' uu, r' hh, r' pp, r' b101] [(.int 58), (.ref b101)])) rfl (by rw [hml]; rfl) (argsL := [(.int (58 : Int32))]) (rest := []) rfl (lenOf own_pd36 rfl) rfl (by show 2 * 0 + _ ≤ _; exact Nat.le_of_eq rfl) (hb hby own_d1_42) (by decide) (by decide)
  obtain ⟨Nq136, Kp136, ⟨rfl, f140⟩⟩ := q136
  have N136 := Fr.app N128 Nq136
  refine go _ _ (st136) ?_
  show G (T136.setTop (mkF m 45 #[r' uu, r' hh, r' pp, r' b101] [(.ref b101)]))
  refine go _ _ (fun _ k => XS.aloadN X136.here hx rfl (hb hby own_d1_45) rfl rfl k) ?_
  have K142 : Keep h0 T128.heap [] := K127.trans Kp128 (allS (Or.inr (Nat.le_of_eq g101.symm)) (allS (Or.inr lt119) all0))
  have K143 : Keep h0 T136.heap [] := K142.trans Kp136 (allS (Or.inr (Nat.le_of_eq g101.symm)) (allS (Or.inr lt135) all0))
  have SF141 : own_SF Z T136.heap pp ps t2_132 := own_SF_of Spp lt135 K143
  have K145 : Keep T128.heap T136.heap [b101, t2_132] := (Keep.refl T128.heap [b101, t2_132]).trans Kp136 (allS (Or.inl (List.mem_of_getElem? (i := 0) rfl)) (allS (Or.inl (List.mem_of_getElem? (i := 1) rfl)) all0))
  have F146 : Old Z n0 T136.heap := (F138.keep K145 (allS (Nat.le_trans Z0 (Nat.le_of_eq g101.symm)) (allS (Nat.le_trans Z0 lt135) all0)))
  have Z147 : h0.size ≤ T136.heap.size := Nat.le_trans Z139 Kp136.1
  obtain ⟨rv144, T144, L144, X144, q144, st144⟩ := own_vi X136 hx hZ (y := (⟨"java/lang/StringBuilder", "append", "(Ljava/lang/String;)Ljava/lang/StringBuilder;"⟩ : MethodName)) (z := (⟨"java/lang/StringBuilder", "append", "(Ljava/lang/String;)Ljava/lang/StringBuilder;"⟩ : MethodName)) hown (ow hw 36 rfl) (ow hw 37 rfl) (ow hw 39 rfl) (ow hw 38 rfl) (Or.inl rfl) (by decide) (own_bkN (W := 0) (rm5 l Z a0 hw z0 fm0 gl [] b101 pp t2_132 ((((([] : List Int32) ++ us) ++ [(64 : Int32)]) ++ hs) ++ [(58 : Int32)]) ps T136.heap n0 (Nat.le_trans Z0 Z147) F146 f140 SF141 (by simp only [List.length_append, List.length_cons, List.length_nil] <;> omega) (Nat.le_trans Z0 (Nat.le_of_eq g101.symm)) (Nat.le_trans Z0 lt135)) hZ (ow hw 40 rfl) (ow hw 18 rfl) (by decide) (by decide)) rfl f140.1 (g := (mkF m 46 #[r' uu, r' hh, r' pp, r' b101] [(.ref pp), (.ref b101)])) rfl (by rw [hml]; rfl) (argsL := [(.ref pp)]) (rest := []) rfl (lenOf own_pd34 rfl) rfl (by show 2 * 0 + _ ≤ _; exact Nat.le_of_eq rfl) (hb hby own_d1_46) (by decide) (by decide)
  obtain ⟨Nq144, Kp144, ⟨t2_148, rfl, p149, f150⟩⟩ := q144
  have N144 := Fr.app N136 Nq144
  have lt151 : h0.size ≤ t2_148 := own_t2 p149 lt135 Z147
  refine go _ _ (st144) ?_
  show G (T144.setTop (mkF m 49 #[r' uu, r' hh, r' pp, r' b101] [(.ref b101)]))
  refine go _ _ (fun _ k => XS.pop X144.here hx rfl (hb hby own_d1_49) rfl rfl (XS.aloadN X144.here hx rfl (hb hby own_d1_50) rfl rfl k)) ?_
  have K153 : Keep T136.heap T144.heap [b101, t2_132] := (Keep.refl T136.heap [b101, t2_132]).trans Kp144 (allS (Or.inl (List.mem_of_getElem? (i := 0) rfl)) (allS (Or.inl (List.mem_of_getElem? (i := 1) rfl)) all0))
  have F154 : Old Z n0 T144.heap := (F146.keep K153 (allS (Nat.le_trans Z0 (Nat.le_of_eq g101.symm)) (allS (Nat.le_trans Z0 lt135) all0)))
  have Z155 : h0.size ≤ T144.heap.size := Nat.le_trans Z147 Kp144.1
  obtain ⟨rv152, T152, L152, X152, q152, st152⟩ := own_vi X144 hx hZ (y := (⟨"java/lang/StringBuilder", "toString", "()Ljava/lang/String;"⟩ : MethodName)) (z := (⟨"java/lang/StringBuilder", "toString", "()Ljava/lang/String;"⟩ : MethodName)) hown (ow hw 104 rfl) (ow hw 105 rfl) (ow hw 107 rfl) (ow hw 106 rfl) (Or.inl rfl) (by decide) (own_bkN (W := 0) (rm17 l Z a0 hw z0 fm0 gl [] b101 t2_148 (((((([] : List Int32) ++ us) ++ [(64 : Int32)]) ++ hs) ++ [(58 : Int32)]) ++ ps) T144.heap n0 (Nat.le_trans Z0 Z155) F154 f150 (by simp only [List.length_append, List.length_cons, List.length_nil] <;> omega)) hZ (ow hw 108 rfl) (ow hw 18 rfl) (by decide) (by decide)) rfl f150.1 (g := (mkF m 51 #[r' uu, r' hh, r' pp, r' b101] [(.ref b101)])) rfl (by rw [hml]; rfl) (argsL := []) (rest := []) rfl (lenOf own_pd35 rfl) rfl (by show 2 * 0 + _ ≤ _; exact Nat.le_of_eq rfl) (hb hby own_d1_51) (by decide) (by decide)
  obtain ⟨Nq152, Kp152, ⟨b_156, rfl, z157, f158, f159⟩⟩ := q152
  have N152 := Fr.app N144 Nq152
  refine go _ _ (st152) ?_
  show G (T152.setTop (mkF m 54 #[r' uu, r' hh, r' pp, r' b101] [(.ref b_156)]))
  have K160 : Keep h0 T144.heap [] := K143.trans Kp144 (allS (Or.inr (Nat.le_of_eq g101.symm)) (allS (Or.inr lt135) all0))
  have K161 : Keep h0 T152.heap [] := K160.trans Kp152 all0
  have qj : (((((([] : List Int32) ++ us) ++ [(64 : Int32)]) ++ hs) ++ [(58 : Int32)]) ++ ps) = (us ++ (64 : Int32) :: (hs ++ (58 : Int32) :: ps)) := by simp
  have Sj : own_S Z T152.heap b_156 (us ++ (64 : Int32) :: (hs ++ (58 : Int32) :: ps)) := by rw [← qj]; exact f159
  refine fin T152 _ _ _ (some (.ref b_156)) X152 (fun q => nomatch q) (by decide) (by decide) ⟨N152, K161, ⟨b_156, rfl, (Nat.le_trans Z155 z157), f158, Sj⟩⟩ _ (own_retA X152 hx hret rfl rfl rfl (hb hby own_d1_54))
theorem own_pn9 : plainName "com/example/naslov/naslov/UriJoinAuthorityPinLaw" = true := by decide +kernel
theorem own_d0_0 : decode method_3_code 0 = .ok (.iload_n 0, 1) := by decide +kernel
theorem own_d0_1 : decode method_3_code 1 = .ok (.ifCond .eq 5, 3) := by decide +kernel
theorem own_d0_6 : decode method_3_code 6 = .ok (.iload_n 2, 1) := by decide +kernel
theorem own_d0_7 : decode method_3_code 7 = .ok (.i2c, 1) := by decide +kernel
theorem own_d0_8 : decode method_3_code 8 = .ok (.istore_n 3, 1) := by decide +kernel
theorem own_d0_9 : decode method_3_code 9 = .ok (.iload_n 2, 1) := by decide +kernel
theorem own_d0_10 : decode method_3_code 10 = .ok (.bipush 16, 2) := by decide +kernel
theorem own_d0_12 : decode method_3_code 12 = .ok (.iushr, 1) := by decide +kernel
theorem own_d0_13 : decode method_3_code 13 = .ok (.i2c, 1) := by decide +kernel
theorem own_d0_14 : decode method_3_code 14 = .ok (.istore 4, 2) := by decide +kernel
theorem own_d0_16 : decode method_3_code 16 = .ok (.iload_n 1, 1) := by decide +kernel
theorem own_d0_17 : decode method_3_code 17 = .ok (.ifCond .ne 6, 3) := by decide +kernel
theorem own_d0_20 : decode method_3_code 20 = .ok (.ldc 29, 2) := by decide +kernel
theorem own_d0_22 : decode method_3_code 22 = .ok (.areturn, 1) := by decide +kernel
theorem own_d0_23 : decode method_3_code 23 = .ok (.iload_n 1, 1) := by decide +kernel
theorem own_d0_24 : decode method_3_code 24 = .ok (.iconst 1, 1) := by decide +kernel
theorem own_d0_25 : decode method_3_code 25 = .ok (.if_icmp .ne 8, 3) := by decide +kernel
theorem own_d0_28 : decode method_3_code 28 = .ok (.iload_n 3, 1) := by decide +kernel
theorem own_pd37 : parseMethodDescriptor "(C)Ljava/lang/String;" = some ⟨[.char], some (.object "java/lang/String")⟩ := by decide +kernel
theorem own_d0_29 : decode method_3_code 29 = .ok (.invokestatic 31, 3) := by decide +kernel
theorem own_d0_32 : decode method_3_code 32 = .ok (.areturn, 1) := by decide +kernel
theorem own_d0_33 : decode method_3_code 33 = .ok (.new 20, 3) := by decide +kernel
theorem own_d0_36 : decode method_3_code 36 = .ok (.dup, 1) := by decide +kernel
theorem own_d0_37 : decode method_3_code 37 = .ok (.iconst 2, 1) := by decide +kernel
theorem own_d0_38 : decode method_3_code 38 = .ok (.newarray .char, 2) := by decide +kernel
theorem own_d0_40 : decode method_3_code 40 = .ok (.dup, 1) := by decide +kernel
theorem own_d0_41 : decode method_3_code 41 = .ok (.iconst 0, 1) := by decide +kernel
theorem own_d0_42 : decode method_3_code 42 = .ok (.iload_n 3, 1) := by decide +kernel
theorem own_d0_43 : decode method_3_code 43 = .ok (.castore, 1) := by decide +kernel
theorem own_d0_44 : decode method_3_code 44 = .ok (.dup, 1) := by decide +kernel
theorem own_d0_45 : decode method_3_code 45 = .ok (.iconst 1, 1) := by decide +kernel
theorem own_d0_46 : decode method_3_code 46 = .ok (.iload 4, 2) := by decide +kernel
theorem own_d0_48 : decode method_3_code 48 = .ok (.castore, 1) := by decide +kernel
theorem own_pd38 : parseMethodDescriptor "([C)V" = some ⟨[(.array .char)], none⟩ := by decide +kernel
theorem own_d0_49 : decode method_3_code 49 = .ok (.invokespecial 35, 3) := by decide +kernel
theorem own_d0_52 : decode method_3_code 52 = .ok (.areturn, 1) := by decide +kernel
theorem own_d0_4 : decode method_3_code 4 = .ok (.aconst_null, 1) := by decide +kernel
theorem own_d0_5 : decode method_3_code 5 = .ok (.areturn, 1) := by decide +kernel
set_option maxHeartbeats 4000000 in
theorem own_ef_rm0 (m : MethodId) (x0 : Int32) (x1 : Int32) (x2 : Int32) : entryFrame m #[(.int x0), (.int x1), (.int x2)] 5 = mkF m 0 #[.val (.int x0), .val (.int x1), .val (.int x2), .unset, .unset] [] := by rfl
set_option maxRecDepth 65536 in
set_option maxHeartbeats 40000000 in
theorem rm0 (l : Launch) (Z : State) (a0 : Array Value) (hw : ∀ d ∈ tables_1, d.before a0 Z = true) (z0 : Int32) (fm0 : Value) (gl : own_Gl Z z0 fm0) (ws : List Jvm.Cond) (fl : Int32) (ln : Int32) (ch : Int32) (h0 : Heap) (n0 : Nat) (Z0 : n0 ≤ h0.size) (Xo : Old Z n0 h0) :
    own_MetH l Z own_EL (⟨"com/example/naslov/naslov/UriJoinAuthorityPinLaw", "part", "(ZII)Ljava/lang/String;"⟩ : MethodName) method_3_code 5 (some (.object "java/lang/String")) ws ({ frames := 6, cells := 4, slots := 12, locals := 88 } : Room) #[(.int fl), (.int ln), (.int ch)] h0 (fun v h L => Fr n0 L ∧ Keep h0 h [] ∧ (((v = some .null) ∧ (¬ fl = (0 : Int32))) ∨ (∃ (b : Addr) (cs : List Int32), (v = some (.ref b)) ∧ (fl = (0 : Int32)) ∧ (cs.length ≤ 2) ∧ (Exa Z h b "java/lang/String") ∧ (own_S Z h b cs)))) := by
  refine own_metH (plainFor_of_name own_pn9) (own_hEL hw) ?_
  intro p e s m below meth c s₁ G hx hby hml hZ hown hnm hret X0 e0 hS C0 go fin
  obtain ⟨O2, P5, O4, R4, O_ad, O_hi, O_lo⟩ := id gl
  have N0 := Fr.nil n0
  refine go _ _ (fun _ k => castTop (own_ef_rm0 m fl ln ch) k) ?_
  show G (s₁.setTop (mkF m 0 #[i' fl, i' ln, i' ch, u', u'] []))
  refine go _ _ (fun _ k => XS.iloadN X0.here hx rfl (hb hby own_d0_0) rfl k) ?_
  show G (s₁.setTop (mkF m 1 #[i' fl, i' ln, i' ch, u', u'] [(.int fl)]))
  by_cases hc1_101 : fl = (0 : Int32)
  · refine go _ _ (fun _ k => XS.ifYes X0.here hx rfl (pc0 := 1) (pc' := 6) rfl (hb hby own_d0_1) rfl ((if0 _ _).trans (teq hc1_101).1) (by decide) (by decide) k) ?_
    show G (s₁.setTop (mkF m 6 #[i' fl, i' ln, i' ch, u', u'] []))
    refine go _ _ (fun _ k => XS.iloadN X0.here hx rfl (hb hby own_d0_6) rfl (XS.i2c X0.here hx rfl (hb hby own_d0_7) rfl k)) ?_
    show G (s₁.setTop (mkF m 8 #[i' fl, i' ln, i' ch, u', u'] [(.int (ch.toUInt32.toUInt16.toUInt32.toInt32))]))
    obtain ⟨xa_102, pa102_0, pa102_1, ea102⟩ : ∃ z : Int32, (¬ z < (0 : Int32)) ∧ (¬ (65535 : Int32) < z) ∧ (ch.toUInt32.toUInt16.toUInt32.toInt32) = z := ⟨_, (own_i2c0 _).1, (own_i2c0 _).2, rfl⟩
    rw [ea102]
    show G (s₁.setTop (mkF m 8 #[i' fl, i' ln, i' ch, u', u'] [(.int xa_102)]))
    refine go _ _ (fun _ k => XS.istoreN X0.here hx rfl (hb hby own_d0_8) rfl (l' := #[i' fl, i' ln, i' ch, i' xa_102, u']) rfl (XS.iloadN X0.here hx rfl (hb hby own_d0_9) rfl (XS.bipush X0.here hx rfl (hb hby own_d0_10) (XS.iushr X0.here hx rfl (hb hby own_d0_12) rfl (XS.i2c X0.here hx rfl (hb hby own_d0_13) rfl k))))) ?_
    show G (s₁.setTop (mkF m 14 #[i' fl, i' ln, i' ch, i' xa_102, u'] [(.int (((ch.toUInt32 >>> ((16 : Int32) &&& 31).toUInt32).toInt32).toUInt32.toUInt16.toUInt32.toInt32))]))
    obtain ⟨ya_103, pa103_0, pa103_1, ea103⟩ : ∃ z : Int32, (¬ z < (0 : Int32)) ∧ (¬ (65535 : Int32) < z) ∧ (((ch.toUInt32 >>> ((16 : Int32) &&& 31).toUInt32).toInt32).toUInt32.toUInt16.toUInt32.toInt32) = z := ⟨_, (own_i2c0 _).1, (own_i2c0 _).2, rfl⟩
    rw [ea103]
    show G (s₁.setTop (mkF m 14 #[i' fl, i' ln, i' ch, i' xa_102, u'] [(.int ya_103)]))
    refine go _ _ (fun _ k => XS.istore X0.here hx rfl (hb hby own_d0_14) rfl (l' := #[i' fl, i' ln, i' ch, i' xa_102, i' ya_103]) rfl (XS.iloadN X0.here hx rfl (hb hby own_d0_16) rfl k)) ?_
    show G (s₁.setTop (mkF m 17 #[i' fl, i' ln, i' ch, i' xa_102, i' ya_103] [(.int ln)]))
    by_cases hc17_104 : ln = (0 : Int32)
    · refine go _ _ (fun _ k => XS.ifNo X0.here hx rfl (hb hby own_d0_17) rfl ((if0 _ _).trans (teq hc17_104).2) k) ?_
      obtain ⟨b105, T105, h105, k105, t105, kb105, X105, e105, E105, hS105, hk105, hZ105, hown105, A105, Fc105, Fv105, V105, -, -, C105, -, -, st105⟩ := ldcCH X0 hx hZ hown (ow hw 4 rfl) (own_sat hw) e0 hS (Nat.le_refl _) (own_hEL hw) (List.mem_of_getElem? (i := 0) rfl) C0.1 (vs := []) (z := (0 : Int32)) (by decide) (by decide) (by decide) (g := (mkF m 20 #[i' fl, i' ln, i' ch, i' xa_102, i' ya_103] [])) rfl (hb hby own_d0_20) (n := 0) (by decide) (by decide) (by decide) (by decide)
      have Sx105 : own_S Z h105 b105 ([] : List Int32) := ⟨t105, kb105, A105, Fv105, own_bd0, (Nat.le_of_ble_eq_true rfl), Or.inl ⟨Fc105, V105, own_b80⟩⟩
      refine go _ _ (st105) ?_
      show G (T105.setTop (mkF m 22 #[i' fl, i' ln, i' ch, i' xa_102, i' ya_103] [(.ref b105)]))
      have K106 : Keep h0 h105 [] := (Keep.refl h0 []).ext E105
      have C107 : CHr Z own_EL s.vm h0 T105.vm h105 := C0.trans C105
      refine fin T105 _ _ _ (some (.ref b105)) T105.vm _ X105 hZ105 hS105 (by rw [e105]; exact hk105) (by rw [e105]; exact C107) (fun q => nomatch q) (by decide) (by decide) (by rw [e105]; exact ⟨N0, K106, (Or.inr ⟨b105, ([] : List Int32), rfl, hc1_101, (Nat.le_of_ble_eq_true rfl), A105, Sx105⟩)⟩) _ (own_retA X105 hx hret rfl rfl rfl (hb hby own_d0_22))
    · refine go _ _ (fun _ k => XS.ifYes X0.here hx rfl (pc0 := 17) (pc' := 23) rfl (hb hby own_d0_17) rfl ((if0 _ _).trans (feq hc17_104).2) (by decide) (by decide) k) ?_
      show G (s₁.setTop (mkF m 23 #[i' fl, i' ln, i' ch, i' xa_102, i' ya_103] []))
      refine go _ _ (fun _ k => XS.iloadN X0.here hx rfl (hb hby own_d0_23) rfl (XS.iconst X0.here hx rfl (hb hby own_d0_24) k)) ?_
      show G (s₁.setTop (mkF m 25 #[i' fl, i' ln, i' ch, i' xa_102, i' ya_103] [(.int 1), (.int ln)]))
      by_cases hc25_108 : ln = (1 : Int32)
      · refine go _ _ (fun _ k => XS.icmpNo X0.here hx rfl (hb hby own_d0_25) rfl (teq hc25_108).2 k) ?_
        show G (s₁.setTop (mkF m 28 #[i' fl, i' ln, i' ch, i' xa_102, i' ya_103] []))
        refine go _ _ (fun _ k => XS.iloadN X0.here hx rfl (hb hby own_d0_28) rfl k) ?_
        obtain ⟨rv109, T109, L109, X109, q109, st109⟩ := own_st X0 hx hZ (y := (⟨"java/lang/String", "valueOf", "(C)Ljava/lang/String;"⟩ : MethodName)) hown (ow hw 175 rfl) (ow hw 176 rfl) (ow hw 5 rfl) (ow hw 177 rfl) (by decide) (own_bkN (W := 0) (rm34 l Z a0 hw z0 fm0 gl [] xa_102 h0 n0 Z0 Xo pa102_0 pa102_1) hZ (ow hw 177 rfl) (ow hw 5 rfl) (by decide) (by decide)) e0 (g := (mkF m 29 #[i' fl, i' ln, i' ch, i' xa_102, i' ya_103] [(.int xa_102)])) rfl (by rw [hml]; rfl) (argsL := [(.int xa_102)]) (rest := []) rfl (lenOf own_pd37 rfl) rfl (by show 2 * 0 + _ ≤ _; exact Nat.le_of_eq rfl) (hb hby own_d0_29) (by decide) (by decide)
        obtain ⟨Nq109, Kp109, ⟨b_110, rfl, z111, f112, f113⟩⟩ := q109
        have N109 := Fr.app N0 Nq109
        refine go _ _ (st109) ?_
        show G (T109.setTop (mkF m 32 #[i' fl, i' ln, i' ch, i' xa_102, i' ya_103] [(.ref b_110)]))
        have K114 : Keep h0 T109.heap [] := (Keep.refl h0 []).trans Kp109 all0
        have C115 : CHr Z own_EL s.vm h0 s.vm T109.heap := C0.trans (CHr.keep K114 sf0 C0.1)
        have Z116 : h0.size ≤ T109.heap.size := Kp109.1
        refine fin T109 _ _ _ (some (.ref b_110)) s.vm _ X109 hZ hS Z116 C115 (fun q => nomatch q) (by decide) (by decide) ⟨N109, K114, (Or.inr ⟨b_110, ([xa_102] : List Int32), rfl, hc1_101, (Nat.le_of_ble_eq_true rfl), f112, f113⟩)⟩ _ (own_retA X109 hx hret rfl rfl rfl (hb hby own_d0_32))
      · refine go _ _ (fun _ k => XS.icmpYes X0.here hx rfl (pc0 := 25) (pc' := 33) rfl (hb hby own_d0_25) rfl (feq hc25_108).2 (by decide) (by decide) k) ?_
        obtain ⟨T117, h117, X117, e117, E117, A117, D117, -, st117⟩ := newO X0 hx hZ hown (ow hw 186 rfl) (ow hw 6 rfl) (ow hw 5 rfl) e0 (g := (mkF m 33 #[i' fl, i' ln, i' ch, i' xa_102, i' ya_103] [])) rfl (hb hby own_d0_33) (by decide) (by decide)
        obtain ⟨b117, g117⟩ : ∃ z, z = h0.size := ⟨_, rfl⟩
        rw [← g117] at A117 D117 st117
        refine go _ _ (st117) ?_
        show G (T117.setTop (mkF m 36 #[i' fl, i' ln, i' ch, i' xa_102, i' ya_103] [(.ref b117)]))
        refine go _ _ (fun _ k => XS.dup X117.here hx rfl (hb hby own_d0_36) rfl rfl (XS.iconst X117.here hx rfl (hb hby own_d0_37) k)) ?_
        obtain ⟨T118, h118, k118, X118, e118, E118, A118, st118⟩ := newP X117 hx hZ (ow hw 187 rfl) e117 (g := (mkF m 38 #[i' fl, i' ln, i' ch, i' xa_102, i' ya_103] [(.int 2), (.ref b117), (.ref b117)])) rfl (hb hby own_d0_38) rfl (by decide) (cap := 2) (by decide) (by decide) (by decide) (by decide)
        obtain ⟨b118, g118⟩ : ∃ z, z = h117.size := ⟨_, rfl⟩
        rw [← g118] at A118 st118
        have V118 : Arv Z h118 b118 k118 .char (2 : Int32) [(.int (0 : Int32)), (.int (0 : Int32))] (.int (0 : Int32)) := (Arv.new A118 (by decide)).pad (pad_rep [] (.int (0 : Int32)) 2)
        refine go _ _ (st118) ?_
        show G (T118.setTop (mkF m 40 #[i' fl, i' ln, i' ch, i' xa_102, i' ya_103] [(.ref b118), (.ref b117), (.ref b117)]))
        refine go _ _ (fun _ k => XS.dup X118.here hx rfl (hb hby own_d0_40) rfl rfl (XS.iconst X118.here hx rfl (hb hby own_d0_41) (XS.iloadN X118.here hx rfl (hb hby own_d0_42) rfl k))) ?_
        obtain ⟨cl119, Ar119, q119, S119, M119, H119, U119⟩ := id V118
        obtain ⟨T119, h119, X119, e119, W119, st119⟩ := stC X118 hx hZ e118 Ar119 (j := (0 : Int32)) (inb_of S119 ⟨by decide, by decide⟩) (g := (mkF m 43 #[i' fl, i' ln, i' ch, i' xa_102, i' ya_103] [(.int xa_102), (.int 0), (.ref b118), (.ref b118), (.ref b117), (.ref b117)])) rfl rfl (hb hby own_d0_43)
        have V119 : Arv Z h119 b118 k118 .char (2 : Int32) [(.int (nar .char xa_102)), (.int (0 : Int32))] (.int (0 : Int32)) := Arv.set Ar119 q119 S119 M119 H119 U119 (fits_nar_char _) W119 0 rfl (Nat.le_of_ble_eq_true rfl)
        rw [(own_nar16 pa102_0 pa102_1)] at V119
        have Z120 : h0.size ≤ h117.size := E117.1
        have N119 := Fr.snoc X119 N0 (Nat.le_trans (Nat.le_trans Z0 Z120) (Nat.le_of_eq g118.symm))
        refine go _ _ (st119) ?_
        show G (T119.setTop (mkF m 44 #[i' fl, i' ln, i' ch, i' xa_102, i' ya_103] [(.ref b118), (.ref b117), (.ref b117)]))
        refine go _ _ (fun _ k => XS.dup X119.here hx rfl (hb hby own_d0_44) rfl rfl (XS.iconst X119.here hx rfl (hb hby own_d0_45) (XS.iload X119.here hx rfl (hb hby own_d0_46) rfl k))) ?_
        obtain ⟨cl121, Ar121, q121, S121, M121, H121, U121⟩ := id V119
        obtain ⟨T121, h121, X121, e121, W121, st121⟩ := stC X119 hx hZ e119 Ar121 (j := (1 : Int32)) (inb_of S121 ⟨by decide, by decide⟩) (g := (mkF m 48 #[i' fl, i' ln, i' ch, i' xa_102, i' ya_103] [(.int ya_103), (.int 1), (.ref b118), (.ref b118), (.ref b117), (.ref b117)])) rfl rfl (hb hby own_d0_48)
        have V121 : Arv Z h121 b118 k118 .char (2 : Int32) [(.int xa_102), (.int (nar .char ya_103))] (.int (0 : Int32)) := Arv.set Ar121 q121 S121 M121 H121 U121 (fits_nar_char _) W121 1 rfl (Nat.le_of_ble_eq_true rfl)
        rw [(own_nar16 pa103_0 pa103_1)] at V121
        have N121 := Fr.snoc X121 N119 (Nat.le_trans (Nat.le_trans Z0 Z120) (Nat.le_of_eq g118.symm))
        refine go _ _ (st121) ?_
        have K123 : Keep h0 h117 [] := (Keep.refl h0 []).ext E117
        have K124 : Keep h0 h118 [] := K123.ext E118
        have K125 : Keep h0 h119 [] := K124.wr W119 (Or.inr (Nat.le_trans Z120 (Nat.le_of_eq g118.symm)))
        have K126 : Keep h0 h121 [] := K125.wr W121 (Or.inr (Nat.le_trans Z120 (Nat.le_of_eq g118.symm)))
        have F127 : Old Z n0 h121 := (Xo.keep K126 all0)
        have K128 : Keep h117 h118 [] := (Keep.refl h117 []).ext E118
        have K129 : Keep h117 h119 [] := K128.wr W119 (Or.inr (Nat.le_of_eq g118.symm))
        have K130 : Keep h117 h121 [] := K129.wr W121 (Or.inr (Nat.le_of_eq g118.symm))
        have F131 : Exa Z h121 b117 "java/lang/String" := (A117.keep K130)
        have F132 : Fld Z h121 b117 "java/lang/String" "value" "[B" .null := ((D117 (Or.inr (ow hw 8 rfl)) (ty := (.array .byte)) (by decide)).keep K130 nin0)
        have F133 : Fld Z h121 b117 "java/lang/String" "coder" "B" (.int (0 : Int32)) := ((D117 (Or.inr (ow hw 9 rfl)) (ty := .byte) (by decide)).keep K130 nin0)
        have Z134 : h0.size ≤ h118.size := Nat.le_trans Z120 E118.1
        have Z135 : h0.size ≤ h119.size := Nat.le_trans Z134 (Keep.of_wr W119).1
        have Z136 : h0.size ≤ h121.size := Nat.le_trans Z135 (Keep.of_wr W121).1
        obtain ⟨rv122, T122, L122, X122, q122, st122⟩ := own_sp X121 hx hZ (y := (⟨"java/lang/String", "<init>", "([C)V"⟩ : MethodName)) rfl hown (ow hw 188 rfl) (ow hw 189 rfl) (ow hw 190 rfl) (by decide) (own_bkN (W := 1) (rm37 l Z a0 hw z0 fm0 gl [] b117 b118 k118 xa_102 ya_103 h121 n0 (Nat.le_trans Z0 Z136) F127 F131 F132 F133 V121 (own_bda (own_bd1 pa102_0 pa102_1) (own_bd1 pa103_0 pa103_1)) (Nat.le_trans Z0 (Nat.le_of_eq g117.symm))) hZ (ow hw 190 rfl) (ow hw 5 rfl) (by decide) (by decide)) e121 (g := (mkF m 49 #[i' fl, i' ln, i' ch, i' xa_102, i' ya_103] [(.ref b118), (.ref b117), (.ref b117)])) rfl (by rw [hml]; rfl) (a := b117) (argsL := [(.ref b118)]) (rest := [(.ref b117)]) rfl (lenOf own_pd38 rfl) rfl (by show 2 * 0 + _ ≤ _; exact Nat.le_of_eq rfl) (hb hby own_d0_49) (by decide) (by decide)
        obtain ⟨Nq122, Kp122, ⟨rfl, f137, f138⟩⟩ := q122
        have N122 := Fr.app N121 Nq122
        refine go _ _ (st122) ?_
        show G (T122.setTop (mkF m 52 #[i' fl, i' ln, i' ch, i' xa_102, i' ya_103] [(.ref b117)]))
        have K139 : Keep h0 T122.heap [] := K126.trans Kp122 (allS (Or.inr (Nat.le_of_eq g117.symm)) all0)
        have C140 : CHr Z own_EL s.vm h0 s.vm T122.heap := C0.trans (CHr.keep K139 sf0 C0.1)
        have Z141 : h0.size ≤ T122.heap.size := Nat.le_trans Z136 Kp122.1
        refine fin T122 _ _ _ (some (.ref b117)) s.vm _ X122 hZ hS Z141 C140 (fun q => nomatch q) (by decide) (by decide) ⟨N122, K139, (Or.inr ⟨b117, ([xa_102, ya_103] : List Int32), rfl, hc1_101, (Nat.le_of_ble_eq_true rfl), f137, f138⟩)⟩ _ (own_retA X122 hx hret rfl rfl rfl (hb hby own_d0_52))
  · refine go _ _ (fun _ k => XS.ifNo X0.here hx rfl (hb hby own_d0_1) rfl ((if0 _ _).trans (feq hc1_101).1) k) ?_
    show G (s₁.setTop (mkF m 4 #[i' fl, i' ln, i' ch, u', u'] []))
    refine go _ _ (fun _ k => XS.aconstNull X0.here hx rfl (hb hby own_d0_4) k) ?_
    show G (s₁.setTop (mkF m 5 #[i' fl, i' ln, i' ch, u', u'] [.null]))
    refine fin s₁ _ _ _ (some .null) s.vm _ X0 hZ hS (by rw [e0]; exact (Nat.le_refl _)) (by rw [e0]; exact C0) (fun q => nomatch q) (by decide) (by decide) (by rw [e0]; exact ⟨N0, (Keep.refl h0 []), (Or.inl ⟨rfl, hc1_101⟩)⟩) _ (own_retA X0 hx hret rfl rfl rfl (hb hby own_d0_5))
theorem own_d33_0 : decode method_5_code 0 = .ok (.iload_n 0, 1) := by decide +kernel
theorem own_d33_1 : decode method_5_code 1 = .ok (.istore 4, 2) := by decide +kernel
theorem own_d33_3 : decode method_5_code 3 = .ok (.aload_n 1, 1) := by decide +kernel
theorem own_d33_4 : decode method_5_code 4 = .ok (.ifnull 42, 3) := by decide +kernel
theorem own_d33_46 : decode method_5_code 46 = .ok (.iload 4, 2) := by decide +kernel
theorem own_d33_48 : decode method_5_code 48 = .ok (.aload_n 2, 1) := by decide +kernel
theorem own_d33_49 : decode method_5_code 49 = .ok (.invokevirtual 19, 3) := by decide +kernel
theorem own_d33_52 : decode method_5_code 52 = .ok (.if_icmp .ge 10, 3) := by decide +kernel
theorem own_d33_55 : decode method_5_code 55 = .ok (.aload_n 2, 1) := by decide +kernel
theorem own_d33_56 : decode method_5_code 56 = .ok (.iload 4, 2) := by decide +kernel
theorem own_pd39 : parseMethodDescriptor "(I)C" = some ⟨[.int], some .char⟩ := by decide +kernel
theorem own_d33_58 : decode method_5_code 58 = .ok (.invokevirtual 38, 3) := by decide +kernel
theorem own_d33_61 : decode method_5_code 61 = .ok (.ireturn, 1) := by decide +kernel
set_option maxHeartbeats 4000000 in
theorem own_ef_rmE00 (m : MethodId) (x0 : Int32) (x2 : Addr) : entryFrame m #[(.int x0), .null, (.ref x2), .null] 5 = mkF m 0 #[.val (.int x0), .val .null, .val (.ref x2), .val .null, .unset] [] := by rfl
set_option maxRecDepth 65536 in
set_option maxHeartbeats 40000000 in
theorem rmE00 (l : Launch) (Z : State) (a0 : Array Value) (hw : ∀ d ∈ tables_1, d.before a0 Z = true) (z0 : Int32) (fm0 : Value) (gl : own_Gl Z z0 fm0) (ws : List Jvm.Cond) (ki : Int32) (hh : Addr) (hs : List Int32) (kn : Nat) (z : Int32) (h0 : Heap) (n0 : Nat) (Z0 : n0 ≤ h0.size) (Xo : Old Z n0 h0) (Ehh : Exa Z h0 hh "java/lang/String") (Shh : own_S Z h0 hh hs) (lhs : hs.length ≤ 2) (hk : ki = (Int32.ofNat kn)) (hz : hs[kn]? = some z) (hk7 : kn ≤ 7) (hbj : own_bd hs) :
    own_MetN l Z (⟨"com/example/naslov/naslov/UriJoinAuthorityPinLaw", "expected", "(ILjava/lang/String;Ljava/lang/String;Ljava/lang/String;)C"⟩ : MethodName) method_5_code 5 (some .char) ws ({ frames := 5, cells := 0, slots := 0, locals := 66 } : Room) #[(.int ki), .null, (.ref hh), .null] h0 (fun v h L => Fr n0 L ∧ h = h0 ∧ ((∃ (r1 : Int32), (v = some (.int r1)) ∧ (r1 = z)))) := by
  refine own_metN (plainFor_of_name own_pn9) ?_
  intro p e s m below meth c s₁ G hx hby hml hZ hown hnm hret X0 e0 go fin
  obtain ⟨O2, P5, O4, R4, O_ad, O_hi, O_lo⟩ := id gl
  have N0 := Fr.nil n0
  refine go _ _ (fun _ k => castTop (own_ef_rmE00 m ki hh) k) ?_
  show G (s₁.setTop (mkF m 0 #[i' ki, .val .null, r' hh, .val .null, u'] []))
  subst hk
  show G (s₁.setTop (mkF m 0 #[i' (Int32.ofNat kn), .val .null, r' hh, .val .null, u'] []))
  have hbJ := own_bdz hbj hz
  refine go _ _ (fun _ k => XS.iloadN X0.here hx rfl (hb hby own_d33_0) rfl (XS.istore X0.here hx rfl (hb hby own_d33_1) rfl (l' := #[i' (Int32.ofNat kn), .val .null, r' hh, .val .null, i' (Int32.ofNat kn)]) rfl (XS.aloadN X0.here hx rfl (hb hby own_d33_3) rfl rfl k))) ?_
  show G (s₁.setTop (mkF m 4 #[i' (Int32.ofNat kn), .val .null, r' hh, .val .null, i' (Int32.ofNat kn)] [.null]))
  refine go _ _ (fun _ k => XS.ifnullYes X0.here hx rfl (pc0 := 4) (pc' := 46) rfl (hb hby own_d33_4) rfl (by decide) (by decide) k) ?_
  show G (s₁.setTop (mkF m 46 #[i' (Int32.ofNat kn), .val .null, r' hh, .val .null, i' (Int32.ofNat kn)] []))
  refine go _ _ (fun _ k => XS.iload X0.here hx rfl (hb hby own_d33_46) rfl (XS.aloadN X0.here hx rfl (hb hby own_d33_48) rfl rfl k)) ?_
  obtain ⟨rv101, T101, L101, X101, q101, st101⟩ := own_vi X0 hx hZ (y := (⟨"java/lang/String", "length", "()I"⟩ : MethodName)) (z := (⟨"java/lang/String", "length", "()I"⟩ : MethodName)) hown (ow hw 147 rfl) (ow hw 47 rfl) (ow hw 49 rfl) (ow hw 48 rfl) (Or.inl rfl) (by decide) (own_bkN (W := 1) (rm7 l Z a0 hw z0 fm0 gl [] hh hs h0 n0 Z0 Xo Shh) hZ (ow hw 50 rfl) (ow hw 5 rfl) (by decide) (by decide)) e0 Ehh (g := (mkF m 49 #[i' (Int32.ofNat kn), .val .null, r' hh, .val .null, i' (Int32.ofNat kn)] [(.ref hh), (.int (Int32.ofNat kn))])) rfl (by rw [hml]; rfl) (argsL := []) (rest := [(.int (Int32.ofNat kn))]) rfl (lenOf own_pd20 rfl) rfl (by show 2 * 0 + _ ≤ _; exact Nat.le_of_eq rfl) (hb hby own_d33_49) (by decide) (by decide)
  obtain ⟨Nq101, e101, rfl⟩ := q101
  have N101 := Fr.app N0 Nq101
  refine go _ _ (st101) ?_
  show G (T101.setTop (mkF m 52 #[i' (Int32.ofNat kn), .val .null, r' hh, .val .null, i' (Int32.ofNat kn)] [(.int (own_n hs)), (.int (Int32.ofNat kn))]))
  refine go _ _ (fun _ k => XS.icmpNo X101.here hx rfl (hb hby own_d33_52) rfl (tlt (own_jlt2 (own_gl hz) (by omega))).2.1 k) ?_
  show G (T101.setTop (mkF m 55 #[i' (Int32.ofNat kn), .val .null, r' hh, .val .null, i' (Int32.ofNat kn)] []))
  refine go _ _ (fun _ k => XS.aloadN X101.here hx rfl (hb hby own_d33_55) rfl rfl (XS.iload X101.here hx rfl (hb hby own_d33_56) rfl k)) ?_
  have hq : hs[kn]? = some z := hz
  obtain ⟨rv102, T102, L102, X102, q102, st102⟩ := own_vi X101 hx hZ (y := (⟨"java/lang/String", "charAt", "(I)C"⟩ : MethodName)) (z := (⟨"java/lang/String", "charAt", "(I)C"⟩ : MethodName)) hown (ow hw 151 rfl) (ow hw 152 rfl) (ow hw 154 rfl) (ow hw 153 rfl) (Or.inl rfl) (by decide) (own_bkN (W := 0) (rm28 l Z a0 hw z0 fm0 gl [] hh (Int32.ofNat kn) hs kn z h0 n0 Z0 Xo Shh rfl hq) hZ (ow hw 155 rfl) (ow hw 5 rfl) (by decide) (by decide)) e101 Ehh (g := (mkF m 58 #[i' (Int32.ofNat kn), .val .null, r' hh, .val .null, i' (Int32.ofNat kn)] [(.int (Int32.ofNat kn)), (.ref hh)])) rfl (by rw [hml]; rfl) (argsL := [(.int (Int32.ofNat kn))]) (rest := []) rfl (lenOf own_pd39 rfl) rfl (by show 2 * 0 + _ ≤ _; exact Nat.le_of_eq rfl) (hb hby own_d33_58) (by decide) (by decide)
  obtain ⟨Nq102, e102, rfl⟩ := q102
  have N102 := Fr.app N101 Nq102
  refine go _ _ (st102) ?_
  show G (T102.setTop (mkF m 61 #[i' (Int32.ofNat kn), .val .null, r' hh, .val .null, i' (Int32.ofNat kn)] [(.int z)]))
  refine fin T102 _ _ _ (some (.int (nar .char z))) X102 (fun q => nomatch q) (by decide) (by decide) (by rw [e102]; exact ⟨N102, rfl, ⟨z, (congrArg (fun z => some (Value.int z)) (own_nar16 hbJ.1 hbJ.2)), rfl⟩⟩) _ (own_retN X102 hx (z := z) (t := .char) hret (by simp) (hb hby own_d33_61))
theorem own_d27_0 : decode method_4_code 0 = .ok (.iload_n 1, 1) := by decide +kernel
theorem own_d27_1 : decode method_4_code 1 = .ok (.iload_n 2, 1) := by decide +kernel
theorem own_d27_2 : decode method_4_code 2 = .ok (.if_icmp .lt 5, 3) := by decide +kernel
theorem own_d27_7 : decode method_4_code 7 = .ok (.aload_n 0, 1) := by decide +kernel
theorem own_d27_8 : decode method_4_code 8 = .ok (.iload_n 1, 1) := by decide +kernel
theorem own_d27_9 : decode method_4_code 9 = .ok (.invokevirtual 38, 3) := by decide +kernel
theorem own_d27_12 : decode method_4_code 12 = .ok (.iload_n 1, 1) := by decide +kernel
theorem own_d27_13 : decode method_4_code 13 = .ok (.aload_n 3, 1) := by decide +kernel
theorem own_d27_14 : decode method_4_code 14 = .ok (.aload 4, 2) := by decide +kernel
theorem own_d27_16 : decode method_4_code 16 = .ok (.aload 5, 2) := by decide +kernel
theorem own_pd40 : parseMethodDescriptor "(ILjava/lang/String;Ljava/lang/String;Ljava/lang/String;)C" = some ⟨[.int, (.object "java/lang/String"), (.object "java/lang/String"), (.object "java/lang/String")], some .char⟩ := by decide +kernel
theorem own_d27_18 : decode method_4_code 18 = .ok (.invokestatic 42, 3) := by decide +kernel
theorem own_d27_21 : decode method_4_code 21 = .ok (.if_icmp .ne 7, 3) := by decide +kernel
theorem own_d27_24 : decode method_4_code 24 = .ok (.iconst 1, 1) := by decide +kernel
theorem own_d27_25 : decode method_4_code 25 = .ok (.goto 4, 3) := by decide +kernel
theorem own_d27_29 : decode method_4_code 29 = .ok (.ireturn, 1) := by decide +kernel
theorem own_d27_5 : decode method_4_code 5 = .ok (.iconst 1, 1) := by decide +kernel
theorem own_d27_6 : decode method_4_code 6 = .ok (.ireturn, 1) := by decide +kernel
set_option maxHeartbeats 4000000 in
theorem own_ef_rmA00 (m : MethodId) (x0 : Addr) (x1 : Int32) (x2 : Int32) (x4 : Addr) : entryFrame m #[(.ref x0), (.int x1), (.int x2), .null, (.ref x4), .null] 6 = mkF m 0 #[.val (.ref x0), .val (.int x1), .val (.int x2), .val .null, .val (.ref x4), .val .null] [] := by rfl
set_option maxRecDepth 65536 in
set_option maxHeartbeats 40000000 in
theorem rmA00 (l : Launch) (Z : State) (a0 : Array Value) (hw : ∀ d ∈ tables_1, d.before a0 Z = true) (z0 : Int32) (fm0 : Value) (gl : own_Gl Z z0 fm0) (ws : List Jvm.Cond) (rr : Addr) (ki : Int32) (nn : Int32) (hh : Addr) (hs : List Int32) (kn : Nat) (h0 : Heap) (n0 : Nat) (Z0 : n0 ≤ h0.size) (Xo : Old Z n0 h0) (Err : Exa Z h0 rr "java/lang/String") (Srr : own_S Z h0 rr hs) (Ehh : Exa Z h0 hh "java/lang/String") (Shh : own_S Z h0 hh hs) (lhs : hs.length ≤ 2) (hk : ki = (Int32.ofNat kn)) (hn : nn = (own_n hs)) (hk7 : kn ≤ 7) :
    own_MetN l Z (⟨"com/example/naslov/naslov/UriJoinAuthorityPinLaw", "at", "(Ljava/lang/String;IILjava/lang/String;Ljava/lang/String;Ljava/lang/String;)Z"⟩ : MethodName) method_4_code 6 (some .boolean) ws ({ frames := 6, cells := 0, slots := 0, locals := 83 } : Room) #[(.ref rr), (.int ki), (.int nn), .null, (.ref hh), .null] h0 (fun v h L => Fr n0 L ∧ h = h0 ∧ (((v = some (.int (1 : Int32)))))) := by
  refine own_metN (plainFor_of_name own_pn9) ?_
  intro p e s m below meth c s₁ G hx hby hml hZ hown hnm hret X0 e0 go fin
  obtain ⟨O2, P5, O4, R4, O_ad, O_hi, O_lo⟩ := id gl
  have N0 := Fr.nil n0
  refine go _ _ (fun _ k => castTop (own_ef_rmA00 m rr ki nn hh) k) ?_
  show G (s₁.setTop (mkF m 0 #[r' rr, i' ki, i' nn, .val .null, r' hh, .val .null] []))
  subst hk
  show G (s₁.setTop (mkF m 0 #[r' rr, i' (Int32.ofNat kn), i' nn, .val .null, r' hh, .val .null] []))
  subst hn
  show G (s₁.setTop (mkF m 0 #[r' rr, i' (Int32.ofNat kn), i' (own_n hs), .val .null, r' hh, .val .null] []))
  have hJl := own_S_len Srr
  have hJb := own_S_bd Srr
  refine go _ _ (fun _ k => XS.iloadN X0.here hx rfl (hb hby own_d27_0) rfl (XS.iloadN X0.here hx rfl (hb hby own_d27_1) rfl k)) ?_
  show G (s₁.setTop (mkF m 2 #[r' rr, i' (Int32.ofNat kn), i' (own_n hs), .val .null, r' hh, .val .null] [(.int (own_n hs)), (.int (Int32.ofNat kn))]))
  by_cases hc2_101 : (Int32.ofNat kn) < (own_n hs)
  · refine go _ _ (fun _ k => XS.icmpYes X0.here hx rfl (pc0 := 2) (pc' := 7) rfl (hb hby own_d27_2) rfl (tlt hc2_101).1 (by decide) (by decide) k) ?_
    show G (s₁.setTop (mkF m 7 #[r' rr, i' (Int32.ofNat kn), i' (own_n hs), .val .null, r' hh, .val .null] []))
    refine go _ _ (fun _ k => XS.aloadN X0.here hx rfl (hb hby own_d27_7) rfl rfl (XS.iloadN X0.here hx rfl (hb hby own_d27_8) rfl k)) ?_
    obtain ⟨z, hz⟩ := own_gz hc2_101 (by omega) hJl
    obtain ⟨rv102, T102, L102, X102, q102, st102⟩ := own_vi X0 hx hZ (y := (⟨"java/lang/String", "charAt", "(I)C"⟩ : MethodName)) (z := (⟨"java/lang/String", "charAt", "(I)C"⟩ : MethodName)) hown (ow hw 151 rfl) (ow hw 152 rfl) (ow hw 154 rfl) (ow hw 153 rfl) (Or.inl rfl) (by decide) (own_bkN (W := 0) (rm28 l Z a0 hw z0 fm0 gl [] rr (Int32.ofNat kn) hs kn z h0 n0 Z0 Xo Srr rfl hz) hZ (ow hw 155 rfl) (ow hw 5 rfl) (by decide) (by decide)) e0 Err (g := (mkF m 9 #[r' rr, i' (Int32.ofNat kn), i' (own_n hs), .val .null, r' hh, .val .null] [(.int (Int32.ofNat kn)), (.ref rr)])) rfl (by rw [hml]; rfl) (argsL := [(.int (Int32.ofNat kn))]) (rest := []) rfl (lenOf own_pd39 rfl) rfl (by show 2 * 0 + _ ≤ _; exact Nat.le_of_eq rfl) (hb hby own_d27_9) (by decide) (by decide)
    obtain ⟨Nq102, e102, rfl⟩ := q102
    have N102 := Fr.app N0 Nq102
    refine go _ _ (st102) ?_
    show G (T102.setTop (mkF m 12 #[r' rr, i' (Int32.ofNat kn), i' (own_n hs), .val .null, r' hh, .val .null] [(.int z)]))
    refine go _ _ (fun _ k => XS.iloadN X102.here hx rfl (hb hby own_d27_12) rfl (XS.aloadN X102.here hx rfl (hb hby own_d27_13) rfl rfl (XS.aload X102.here hx rfl (hb hby own_d27_14) rfl rfl (XS.aload X102.here hx rfl (hb hby own_d27_16) rfl rfl k)))) ?_
    obtain ⟨rv103, T103, L103, X103, q103, st103⟩ := own_st X102 hx hZ (y := (⟨"com/example/naslov/naslov/UriJoinAuthorityPinLaw", "expected", "(ILjava/lang/String;Ljava/lang/String;Ljava/lang/String;)C"⟩ : MethodName)) hown (ow hw 172 rfl) (ow hw 173 rfl) (ow hw 2 rfl) (ow hw 174 rfl) (by decide) (own_bkN (W := 1) (rmE00 l Z a0 hw z0 fm0 gl [] (Int32.ofNat kn) hh hs kn z h0 n0 Z0 Xo Ehh Shh lhs rfl hz hk7 hJb) hZ (ow hw 174 rfl) (ow hw 2 rfl) (by decide) (by decide)) e102 (g := (mkF m 18 #[r' rr, i' (Int32.ofNat kn), i' (own_n hs), .val .null, r' hh, .val .null] [.null, (.ref hh), .null, (.int (Int32.ofNat kn)), (.int z)])) rfl (by rw [hml]; rfl) (argsL := [(.int (Int32.ofNat kn)), .null, (.ref hh), .null]) (rest := [(.int z)]) rfl (lenOf own_pd40 rfl) rfl (by show 2 * 0 + _ ≤ _; exact Nat.le_of_eq rfl) (hb hby own_d27_18) (by decide) (by decide)
    obtain ⟨Nq103, e103, ⟨r1_104, rfl, p105⟩⟩ := q103
    have N103 := Fr.app N102 Nq103
    refine go _ _ (st103) ?_
    show G (T103.setTop (mkF m 21 #[r' rr, i' (Int32.ofNat kn), i' (own_n hs), .val .null, r' hh, .val .null] [(.int r1_104), (.int z)]))
    refine go _ _ (fun _ k => XS.icmpNo X103.here hx rfl (hb hby own_d27_21) rfl (teq (Eq.symm p105)).2 k) ?_
    show G (T103.setTop (mkF m 24 #[r' rr, i' (Int32.ofNat kn), i' (own_n hs), .val .null, r' hh, .val .null] []))
    refine go _ _ (fun _ k => XS.iconst X103.here hx rfl (hb hby own_d27_24) k) ?_
    show G (T103.setTop (mkF m 25 #[r' rr, i' (Int32.ofNat kn), i' (own_n hs), .val .null, r' hh, .val .null] [(.int 1)]))
    refine go _ _ (fun _ k => XS.goto X103.here hx rfl (pc0 := 25) (pc' := 29) rfl (hb hby own_d27_25) (by decide) (by decide) k) ?_
    show G (T103.setTop (mkF m 29 #[r' rr, i' (Int32.ofNat kn), i' (own_n hs), .val .null, r' hh, .val .null] [(.int 1)]))
    refine fin T103 _ _ _ (some (.int (1 : Int32))) X103 (fun q => nomatch q) (by decide) (by decide) (by rw [e103]; exact ⟨N103, rfl, rfl⟩) _ (own_retN X103 hx (z := (1 : Int32)) (t := .boolean) hret (by simp) (hb hby own_d27_29))
  · refine go _ _ (fun _ k => XS.icmpNo X0.here hx rfl (hb hby own_d27_2) rfl (flt hc2_101).1 k) ?_
    show G (s₁.setTop (mkF m 5 #[r' rr, i' (Int32.ofNat kn), i' (own_n hs), .val .null, r' hh, .val .null] []))
    refine go _ _ (fun _ k => XS.iconst X0.here hx rfl (hb hby own_d27_5) k) ?_
    show G (s₁.setTop (mkF m 6 #[r' rr, i' (Int32.ofNat kn), i' (own_n hs), .val .null, r' hh, .val .null] [(.int 1)]))
    refine fin s₁ _ _ _ (some (.int (1 : Int32))) X0 (fun q => nomatch q) (by decide) (by decide) (by rw [e0]; exact ⟨N0, rfl, rfl⟩) _ (own_retN X0 hx (z := (1 : Int32)) (t := .boolean) hret (by simp) (hb hby own_d27_6))
theorem own_d33_62 : decode method_5_code 62 = .ok (.iload 4, 2) := by decide +kernel
theorem own_d33_64 : decode method_5_code 64 = .ok (.aload_n 2, 1) := by decide +kernel
theorem own_d33_65 : decode method_5_code 65 = .ok (.invokevirtual 19, 3) := by decide +kernel
theorem own_d33_68 : decode method_5_code 68 = .ok (.isub, 1) := by decide +kernel
theorem own_d33_69 : decode method_5_code 69 = .ok (.istore 4, 2) := by decide +kernel
theorem own_d33_71 : decode method_5_code 71 = .ok (.iload 4, 2) := by decide +kernel
theorem own_d33_73 : decode method_5_code 73 = .ok (.ifCond .ne 6, 3) := by decide +kernel
theorem own_d33_76 : decode method_5_code 76 = .ok (.bipush 58, 2) := by decide +kernel
theorem own_d33_78 : decode method_5_code 78 = .ok (.ireturn, 1) := by decide +kernel
theorem own_d33_79 : decode method_5_code 79 = .ok (.aload_n 3, 1) := by decide +kernel
theorem own_d33_80 : decode method_5_code 80 = .ok (.iload 4, 2) := by decide +kernel
theorem own_d33_82 : decode method_5_code 82 = .ok (.iconst 1, 1) := by decide +kernel
theorem own_d33_83 : decode method_5_code 83 = .ok (.isub, 1) := by decide +kernel
theorem own_d33_84 : decode method_5_code 84 = .ok (.invokevirtual 38, 3) := by decide +kernel
theorem own_d33_87 : decode method_5_code 87 = .ok (.ireturn, 1) := by decide +kernel
set_option maxHeartbeats 4000000 in
theorem own_ef_rmE01 (m : MethodId) (x0 : Int32) (x2 : Addr) (x3 : Addr) : entryFrame m #[(.int x0), .null, (.ref x2), (.ref x3)] 5 = mkF m 0 #[.val (.int x0), .val .null, .val (.ref x2), .val (.ref x3), .unset] [] := by rfl
set_option maxRecDepth 65536 in
set_option maxHeartbeats 40000000 in
theorem rmE01 (l : Launch) (Z : State) (a0 : Array Value) (hw : ∀ d ∈ tables_1, d.before a0 Z = true) (z0 : Int32) (fm0 : Value) (gl : own_Gl Z z0 fm0) (ws : List Jvm.Cond) (ki : Int32) (hh : Addr) (pp : Addr) (hs : List Int32) (ps : List Int32) (kn : Nat) (z : Int32) (h0 : Heap) (n0 : Nat) (Z0 : n0 ≤ h0.size) (Xo : Old Z n0 h0) (Ehh : Exa Z h0 hh "java/lang/String") (Shh : own_S Z h0 hh hs) (lhs : hs.length ≤ 2) (Epp : Exa Z h0 pp "java/lang/String") (Spp : own_S Z h0 pp ps) (lps : ps.length ≤ 2) (hk : ki = (Int32.ofNat kn)) (hz : (hs ++ (58 : Int32) :: ps)[kn]? = some z) (hk7 : kn ≤ 7) (hbj : own_bd (hs ++ (58 : Int32) :: ps)) :
    own_MetN l Z (⟨"com/example/naslov/naslov/UriJoinAuthorityPinLaw", "expected", "(ILjava/lang/String;Ljava/lang/String;Ljava/lang/String;)C"⟩ : MethodName) method_5_code 5 (some .char) ws ({ frames := 5, cells := 0, slots := 0, locals := 66 } : Room) #[(.int ki), .null, (.ref hh), (.ref pp)] h0 (fun v h L => Fr n0 L ∧ h = h0 ∧ ((∃ (r1 : Int32), (v = some (.int r1)) ∧ (r1 = z)))) := by
  refine own_metN (plainFor_of_name own_pn9) ?_
  intro p e s m below meth c s₁ G hx hby hml hZ hown hnm hret X0 e0 go fin
  obtain ⟨O2, P5, O4, R4, O_ad, O_hi, O_lo⟩ := id gl
  have N0 := Fr.nil n0
  refine go _ _ (fun _ k => castTop (own_ef_rmE01 m ki hh pp) k) ?_
  show G (s₁.setTop (mkF m 0 #[i' ki, .val .null, r' hh, r' pp, u'] []))
  subst hk
  show G (s₁.setTop (mkF m 0 #[i' (Int32.ofNat kn), .val .null, r' hh, r' pp, u'] []))
  have hbJ := own_bdz hbj hz
  refine go _ _ (fun _ k => XS.iloadN X0.here hx rfl (hb hby own_d33_0) rfl (XS.istore X0.here hx rfl (hb hby own_d33_1) rfl (l' := #[i' (Int32.ofNat kn), .val .null, r' hh, r' pp, i' (Int32.ofNat kn)]) rfl (XS.aloadN X0.here hx rfl (hb hby own_d33_3) rfl rfl k))) ?_
  show G (s₁.setTop (mkF m 4 #[i' (Int32.ofNat kn), .val .null, r' hh, r' pp, i' (Int32.ofNat kn)] [.null]))
  refine go _ _ (fun _ k => XS.ifnullYes X0.here hx rfl (pc0 := 4) (pc' := 46) rfl (hb hby own_d33_4) rfl (by decide) (by decide) k) ?_
  show G (s₁.setTop (mkF m 46 #[i' (Int32.ofNat kn), .val .null, r' hh, r' pp, i' (Int32.ofNat kn)] []))
  refine go _ _ (fun _ k => XS.iload X0.here hx rfl (hb hby own_d33_46) rfl (XS.aloadN X0.here hx rfl (hb hby own_d33_48) rfl rfl k)) ?_
  obtain ⟨rv101, T101, L101, X101, q101, st101⟩ := own_vi X0 hx hZ (y := (⟨"java/lang/String", "length", "()I"⟩ : MethodName)) (z := (⟨"java/lang/String", "length", "()I"⟩ : MethodName)) hown (ow hw 147 rfl) (ow hw 47 rfl) (ow hw 49 rfl) (ow hw 48 rfl) (Or.inl rfl) (by decide) (own_bkN (W := 1) (rm7 l Z a0 hw z0 fm0 gl [] hh hs h0 n0 Z0 Xo Shh) hZ (ow hw 50 rfl) (ow hw 5 rfl) (by decide) (by decide)) e0 Ehh (g := (mkF m 49 #[i' (Int32.ofNat kn), .val .null, r' hh, r' pp, i' (Int32.ofNat kn)] [(.ref hh), (.int (Int32.ofNat kn))])) rfl (by rw [hml]; rfl) (argsL := []) (rest := [(.int (Int32.ofNat kn))]) rfl (lenOf own_pd20 rfl) rfl (by show 2 * 0 + _ ≤ _; exact Nat.le_of_eq rfl) (hb hby own_d33_49) (by decide) (by decide)
  obtain ⟨Nq101, e101, rfl⟩ := q101
  have N101 := Fr.app N0 Nq101
  refine go _ _ (st101) ?_
  show G (T101.setTop (mkF m 52 #[i' (Int32.ofNat kn), .val .null, r' hh, r' pp, i' (Int32.ofNat kn)] [(.int (own_n hs)), (.int (Int32.ofNat kn))]))
  by_cases hc52_102 : (Int32.ofNat kn) < (own_n hs)
  · refine go _ _ (fun _ k => XS.icmpNo X101.here hx rfl (hb hby own_d33_52) rfl (tlt hc52_102).2.1 k) ?_
    show G (T101.setTop (mkF m 55 #[i' (Int32.ofNat kn), .val .null, r' hh, r' pp, i' (Int32.ofNat kn)] []))
    refine go _ _ (fun _ k => XS.aloadN X101.here hx rfl (hb hby own_d33_55) rfl rfl (XS.iload X101.here hx rfl (hb hby own_d33_56) rfl k)) ?_
    have hq : hs[kn]? = some z := own_e1 hz (own_ltn hc52_102 (by omega) (by omega))
    obtain ⟨rv103, T103, L103, X103, q103, st103⟩ := own_vi X101 hx hZ (y := (⟨"java/lang/String", "charAt", "(I)C"⟩ : MethodName)) (z := (⟨"java/lang/String", "charAt", "(I)C"⟩ : MethodName)) hown (ow hw 151 rfl) (ow hw 152 rfl) (ow hw 154 rfl) (ow hw 153 rfl) (Or.inl rfl) (by decide) (own_bkN (W := 0) (rm28 l Z a0 hw z0 fm0 gl [] hh (Int32.ofNat kn) hs kn z h0 n0 Z0 Xo Shh rfl hq) hZ (ow hw 155 rfl) (ow hw 5 rfl) (by decide) (by decide)) e101 Ehh (g := (mkF m 58 #[i' (Int32.ofNat kn), .val .null, r' hh, r' pp, i' (Int32.ofNat kn)] [(.int (Int32.ofNat kn)), (.ref hh)])) rfl (by rw [hml]; rfl) (argsL := [(.int (Int32.ofNat kn))]) (rest := []) rfl (lenOf own_pd39 rfl) rfl (by show 2 * 0 + _ ≤ _; exact Nat.le_of_eq rfl) (hb hby own_d33_58) (by decide) (by decide)
    obtain ⟨Nq103, e103, rfl⟩ := q103
    have N103 := Fr.app N101 Nq103
    refine go _ _ (st103) ?_
    show G (T103.setTop (mkF m 61 #[i' (Int32.ofNat kn), .val .null, r' hh, r' pp, i' (Int32.ofNat kn)] [(.int z)]))
    refine fin T103 _ _ _ (some (.int (nar .char z))) X103 (fun q => nomatch q) (by decide) (by decide) (by rw [e103]; exact ⟨N103, rfl, ⟨z, (congrArg (fun z => some (Value.int z)) (own_nar16 hbJ.1 hbJ.2)), rfl⟩⟩) _ (own_retN X103 hx (z := z) (t := .char) hret (by simp) (hb hby own_d33_61))
  · refine go _ _ (fun _ k => XS.icmpYes X101.here hx rfl (pc0 := 52) (pc' := 62) rfl (hb hby own_d33_52) rfl (flt hc52_102).2.1 (by decide) (by decide) k) ?_
    show G (T101.setTop (mkF m 62 #[i' (Int32.ofNat kn), .val .null, r' hh, r' pp, i' (Int32.ofNat kn)] []))
    refine go _ _ (fun _ k => XS.iload X101.here hx rfl (hb hby own_d33_62) rfl (XS.aloadN X101.here hx rfl (hb hby own_d33_64) rfl rfl k)) ?_
    obtain ⟨rv104, T104, L104, X104, q104, st104⟩ := own_vi X101 hx hZ (y := (⟨"java/lang/String", "length", "()I"⟩ : MethodName)) (z := (⟨"java/lang/String", "length", "()I"⟩ : MethodName)) hown (ow hw 147 rfl) (ow hw 47 rfl) (ow hw 49 rfl) (ow hw 48 rfl) (Or.inl rfl) (by decide) (own_bkN (W := 1) (rm7 l Z a0 hw z0 fm0 gl [] hh hs h0 n0 Z0 Xo Shh) hZ (ow hw 50 rfl) (ow hw 5 rfl) (by decide) (by decide)) e101 Ehh (g := (mkF m 65 #[i' (Int32.ofNat kn), .val .null, r' hh, r' pp, i' (Int32.ofNat kn)] [(.ref hh), (.int (Int32.ofNat kn))])) rfl (by rw [hml]; rfl) (argsL := []) (rest := [(.int (Int32.ofNat kn))]) rfl (lenOf own_pd20 rfl) rfl (by show 2 * 0 + _ ≤ _; exact Nat.le_of_eq rfl) (hb hby own_d33_65) (by decide) (by decide)
    obtain ⟨Nq104, e104, rfl⟩ := q104
    have N104 := Fr.app N101 Nq104
    refine go _ _ (st104) ?_
    show G (T104.setTop (mkF m 68 #[i' (Int32.ofNat kn), .val .null, r' hh, r' pp, i' (Int32.ofNat kn)] [(.int (own_n hs)), (.int (Int32.ofNat kn))]))
    refine go _ _ (fun _ k => XS.isub X104.here hx rfl (hb hby own_d33_68) rfl (XS.istore X104.here hx rfl (hb hby own_d33_69) rfl (l' := #[i' (Int32.ofNat kn), .val .null, r' hh, r' pp, i' ((Int32.ofNat kn) - (own_n hs))]) rfl (XS.iload X104.here hx rfl (hb hby own_d33_71) rfl k))) ?_
    show G (T104.setTop (mkF m 73 #[i' (Int32.ofNat kn), .val .null, r' hh, r' pp, i' ((Int32.ofNat kn) - (own_n hs))] [(.int ((Int32.ofNat kn) - (own_n hs)))]))
    by_cases hc73_105 : ((Int32.ofNat kn) - (own_n hs)) = (0 : Int32)
    · refine go _ _ (fun _ k => XS.ifNo X104.here hx rfl (hb hby own_d33_73) rfl ((if0 _ _).trans (teq hc73_105).2) k) ?_
      show G (T104.setTop (mkF m 76 #[i' (Int32.ofNat kn), .val .null, r' hh, r' pp, i' ((Int32.ofNat kn) - (own_n hs))] []))
      refine go _ _ (fun _ k => XS.bipush X104.here hx rfl (hb hby own_d33_76) k) ?_
      show G (T104.setTop (mkF m 78 #[i' (Int32.ofNat kn), .val .null, r' hh, r' pp, i' ((Int32.ofNat kn) - (own_n hs))] [(.int 58)]))
      refine fin T104 _ _ _ (some (.int (58 : Int32))) X104 (fun q => nomatch q) (by decide) (by decide) (by rw [e104]; exact ⟨N104, rfl, ⟨(58 : Int32), rfl, (own_e2 hz (own_e5 hc73_105 (own_gen hc52_102 (by omega) (by omega)) (by omega)))⟩⟩) _ (own_retN X104 hx (z := (58 : Int32)) (t := .char) hret (by simp) (hb hby own_d33_78))
    · refine go _ _ (fun _ k => XS.ifYes X104.here hx rfl (pc0 := 73) (pc' := 79) rfl (hb hby own_d33_73) rfl ((if0 _ _).trans (feq hc73_105).2) (by decide) (by decide) k) ?_
      show G (T104.setTop (mkF m 79 #[i' (Int32.ofNat kn), .val .null, r' hh, r' pp, i' ((Int32.ofNat kn) - (own_n hs))] []))
      refine go _ _ (fun _ k => XS.aloadN X104.here hx rfl (hb hby own_d33_79) rfl rfl (XS.iload X104.here hx rfl (hb hby own_d33_80) rfl (XS.iconst X104.here hx rfl (hb hby own_d33_82) (XS.isub X104.here hx rfl (hb hby own_d33_83) rfl k)))) ?_
      show G (T104.setTop (mkF m 84 #[i' (Int32.ofNat kn), .val .null, r' hh, r' pp, i' ((Int32.ofNat kn) - (own_n hs))] [(.int (((Int32.ofNat kn) - (own_n hs)) - (1 : Int32))), (.ref pp)]))
      obtain ⟨kp, ekp, hzp, hkp⟩ := own_e4 hz (own_e6 hc73_105 (own_gen hc52_102 (by omega) (by omega))) (by omega)
      rw [ekp]
      show G (T104.setTop (mkF m 84 #[i' (Int32.ofNat kn), .val .null, r' hh, r' pp, i' ((Int32.ofNat kn) - (own_n hs))] [(.int (Int32.ofNat kp)), (.ref pp)]))
      obtain ⟨rv106, T106, L106, X106, q106, st106⟩ := own_vi X104 hx hZ (y := (⟨"java/lang/String", "charAt", "(I)C"⟩ : MethodName)) (z := (⟨"java/lang/String", "charAt", "(I)C"⟩ : MethodName)) hown (ow hw 151 rfl) (ow hw 152 rfl) (ow hw 154 rfl) (ow hw 153 rfl) (Or.inl rfl) (by decide) (own_bkN (W := 0) (rm28 l Z a0 hw z0 fm0 gl [] pp (Int32.ofNat kp) ps kp z h0 n0 Z0 Xo Spp rfl hzp) hZ (ow hw 155 rfl) (ow hw 5 rfl) (by decide) (by decide)) e104 Epp (g := (mkF m 84 #[i' (Int32.ofNat kn), .val .null, r' hh, r' pp, i' ((Int32.ofNat kn) - (own_n hs))] [(.int (Int32.ofNat kp)), (.ref pp)])) rfl (by rw [hml]; rfl) (argsL := [(.int (Int32.ofNat kp))]) (rest := []) rfl (lenOf own_pd39 rfl) rfl (by show 2 * 0 + _ ≤ _; exact Nat.le_of_eq rfl) (hb hby own_d33_84) (by decide) (by decide)
      obtain ⟨Nq106, e106, rfl⟩ := q106
      have N106 := Fr.app N104 Nq106
      refine go _ _ (st106) ?_
      show G (T106.setTop (mkF m 87 #[i' (Int32.ofNat kn), .val .null, r' hh, r' pp, i' ((Int32.ofNat kn) - (own_n hs))] [(.int z)]))
      refine fin T106 _ _ _ (some (.int (nar .char z))) X106 (fun q => nomatch q) (by decide) (by decide) (by rw [e106]; exact ⟨N106, rfl, ⟨z, (congrArg (fun z => some (Value.int z)) (own_nar16 hbJ.1 hbJ.2)), rfl⟩⟩) _ (own_retN X106 hx (z := z) (t := .char) hret (by simp) (hb hby own_d33_87))
set_option maxHeartbeats 4000000 in
theorem own_ef_rmA01 (m : MethodId) (x0 : Addr) (x1 : Int32) (x2 : Int32) (x4 : Addr) (x5 : Addr) : entryFrame m #[(.ref x0), (.int x1), (.int x2), .null, (.ref x4), (.ref x5)] 6 = mkF m 0 #[.val (.ref x0), .val (.int x1), .val (.int x2), .val .null, .val (.ref x4), .val (.ref x5)] [] := by rfl
set_option maxRecDepth 65536 in
set_option maxHeartbeats 40000000 in
theorem rmA01 (l : Launch) (Z : State) (a0 : Array Value) (hw : ∀ d ∈ tables_1, d.before a0 Z = true) (z0 : Int32) (fm0 : Value) (gl : own_Gl Z z0 fm0) (ws : List Jvm.Cond) (rr : Addr) (ki : Int32) (nn : Int32) (hh : Addr) (pp : Addr) (hs : List Int32) (ps : List Int32) (kn : Nat) (h0 : Heap) (n0 : Nat) (Z0 : n0 ≤ h0.size) (Xo : Old Z n0 h0) (Err : Exa Z h0 rr "java/lang/String") (Srr : own_S Z h0 rr (hs ++ (58 : Int32) :: ps)) (Ehh : Exa Z h0 hh "java/lang/String") (Shh : own_S Z h0 hh hs) (lhs : hs.length ≤ 2) (Epp : Exa Z h0 pp "java/lang/String") (Spp : own_S Z h0 pp ps) (lps : ps.length ≤ 2) (hk : ki = (Int32.ofNat kn)) (hn : nn = (own_n (hs ++ (58 : Int32) :: ps))) (hk7 : kn ≤ 7) :
    own_MetN l Z (⟨"com/example/naslov/naslov/UriJoinAuthorityPinLaw", "at", "(Ljava/lang/String;IILjava/lang/String;Ljava/lang/String;Ljava/lang/String;)Z"⟩ : MethodName) method_4_code 6 (some .boolean) ws ({ frames := 6, cells := 0, slots := 0, locals := 83 } : Room) #[(.ref rr), (.int ki), (.int nn), .null, (.ref hh), (.ref pp)] h0 (fun v h L => Fr n0 L ∧ h = h0 ∧ (((v = some (.int (1 : Int32)))))) := by
  refine own_metN (plainFor_of_name own_pn9) ?_
  intro p e s m below meth c s₁ G hx hby hml hZ hown hnm hret X0 e0 go fin
  obtain ⟨O2, P5, O4, R4, O_ad, O_hi, O_lo⟩ := id gl
  have N0 := Fr.nil n0
  refine go _ _ (fun _ k => castTop (own_ef_rmA01 m rr ki nn hh pp) k) ?_
  show G (s₁.setTop (mkF m 0 #[r' rr, i' ki, i' nn, .val .null, r' hh, r' pp] []))
  subst hk
  show G (s₁.setTop (mkF m 0 #[r' rr, i' (Int32.ofNat kn), i' nn, .val .null, r' hh, r' pp] []))
  subst hn
  show G (s₁.setTop (mkF m 0 #[r' rr, i' (Int32.ofNat kn), i' (own_n (hs ++ (58 : Int32) :: ps)), .val .null, r' hh, r' pp] []))
  have hJl := own_S_len Srr
  have hJb := own_S_bd Srr
  refine go _ _ (fun _ k => XS.iloadN X0.here hx rfl (hb hby own_d27_0) rfl (XS.iloadN X0.here hx rfl (hb hby own_d27_1) rfl k)) ?_
  show G (s₁.setTop (mkF m 2 #[r' rr, i' (Int32.ofNat kn), i' (own_n (hs ++ (58 : Int32) :: ps)), .val .null, r' hh, r' pp] [(.int (own_n (hs ++ (58 : Int32) :: ps))), (.int (Int32.ofNat kn))]))
  by_cases hc2_101 : (Int32.ofNat kn) < (own_n (hs ++ (58 : Int32) :: ps))
  · refine go _ _ (fun _ k => XS.icmpYes X0.here hx rfl (pc0 := 2) (pc' := 7) rfl (hb hby own_d27_2) rfl (tlt hc2_101).1 (by decide) (by decide) k) ?_
    show G (s₁.setTop (mkF m 7 #[r' rr, i' (Int32.ofNat kn), i' (own_n (hs ++ (58 : Int32) :: ps)), .val .null, r' hh, r' pp] []))
    refine go _ _ (fun _ k => XS.aloadN X0.here hx rfl (hb hby own_d27_7) rfl rfl (XS.iloadN X0.here hx rfl (hb hby own_d27_8) rfl k)) ?_
    obtain ⟨z, hz⟩ := own_gz hc2_101 (by omega) hJl
    obtain ⟨rv102, T102, L102, X102, q102, st102⟩ := own_vi X0 hx hZ (y := (⟨"java/lang/String", "charAt", "(I)C"⟩ : MethodName)) (z := (⟨"java/lang/String", "charAt", "(I)C"⟩ : MethodName)) hown (ow hw 151 rfl) (ow hw 152 rfl) (ow hw 154 rfl) (ow hw 153 rfl) (Or.inl rfl) (by decide) (own_bkN (W := 0) (rm28 l Z a0 hw z0 fm0 gl [] rr (Int32.ofNat kn) (hs ++ (58 : Int32) :: ps) kn z h0 n0 Z0 Xo Srr rfl hz) hZ (ow hw 155 rfl) (ow hw 5 rfl) (by decide) (by decide)) e0 Err (g := (mkF m 9 #[r' rr, i' (Int32.ofNat kn), i' (own_n (hs ++ (58 : Int32) :: ps)), .val .null, r' hh, r' pp] [(.int (Int32.ofNat kn)), (.ref rr)])) rfl (by rw [hml]; rfl) (argsL := [(.int (Int32.ofNat kn))]) (rest := []) rfl (lenOf own_pd39 rfl) rfl (by show 2 * 0 + _ ≤ _; exact Nat.le_of_eq rfl) (hb hby own_d27_9) (by decide) (by decide)
    obtain ⟨Nq102, e102, rfl⟩ := q102
    have N102 := Fr.app N0 Nq102
    refine go _ _ (st102) ?_
    show G (T102.setTop (mkF m 12 #[r' rr, i' (Int32.ofNat kn), i' (own_n (hs ++ (58 : Int32) :: ps)), .val .null, r' hh, r' pp] [(.int z)]))
    refine go _ _ (fun _ k => XS.iloadN X102.here hx rfl (hb hby own_d27_12) rfl (XS.aloadN X102.here hx rfl (hb hby own_d27_13) rfl rfl (XS.aload X102.here hx rfl (hb hby own_d27_14) rfl rfl (XS.aload X102.here hx rfl (hb hby own_d27_16) rfl rfl k)))) ?_
    obtain ⟨rv103, T103, L103, X103, q103, st103⟩ := own_st X102 hx hZ (y := (⟨"com/example/naslov/naslov/UriJoinAuthorityPinLaw", "expected", "(ILjava/lang/String;Ljava/lang/String;Ljava/lang/String;)C"⟩ : MethodName)) hown (ow hw 172 rfl) (ow hw 173 rfl) (ow hw 2 rfl) (ow hw 174 rfl) (by decide) (own_bkN (W := 1) (rmE01 l Z a0 hw z0 fm0 gl [] (Int32.ofNat kn) hh pp hs ps kn z h0 n0 Z0 Xo Ehh Shh lhs Epp Spp lps rfl hz hk7 hJb) hZ (ow hw 174 rfl) (ow hw 2 rfl) (by decide) (by decide)) e102 (g := (mkF m 18 #[r' rr, i' (Int32.ofNat kn), i' (own_n (hs ++ (58 : Int32) :: ps)), .val .null, r' hh, r' pp] [(.ref pp), (.ref hh), .null, (.int (Int32.ofNat kn)), (.int z)])) rfl (by rw [hml]; rfl) (argsL := [(.int (Int32.ofNat kn)), .null, (.ref hh), (.ref pp)]) (rest := [(.int z)]) rfl (lenOf own_pd40 rfl) rfl (by show 2 * 0 + _ ≤ _; exact Nat.le_of_eq rfl) (hb hby own_d27_18) (by decide) (by decide)
    obtain ⟨Nq103, e103, ⟨r1_104, rfl, p105⟩⟩ := q103
    have N103 := Fr.app N102 Nq103
    refine go _ _ (st103) ?_
    show G (T103.setTop (mkF m 21 #[r' rr, i' (Int32.ofNat kn), i' (own_n (hs ++ (58 : Int32) :: ps)), .val .null, r' hh, r' pp] [(.int r1_104), (.int z)]))
    refine go _ _ (fun _ k => XS.icmpNo X103.here hx rfl (hb hby own_d27_21) rfl (teq (Eq.symm p105)).2 k) ?_
    show G (T103.setTop (mkF m 24 #[r' rr, i' (Int32.ofNat kn), i' (own_n (hs ++ (58 : Int32) :: ps)), .val .null, r' hh, r' pp] []))
    refine go _ _ (fun _ k => XS.iconst X103.here hx rfl (hb hby own_d27_24) k) ?_
    show G (T103.setTop (mkF m 25 #[r' rr, i' (Int32.ofNat kn), i' (own_n (hs ++ (58 : Int32) :: ps)), .val .null, r' hh, r' pp] [(.int 1)]))
    refine go _ _ (fun _ k => XS.goto X103.here hx rfl (pc0 := 25) (pc' := 29) rfl (hb hby own_d27_25) (by decide) (by decide) k) ?_
    show G (T103.setTop (mkF m 29 #[r' rr, i' (Int32.ofNat kn), i' (own_n (hs ++ (58 : Int32) :: ps)), .val .null, r' hh, r' pp] [(.int 1)]))
    refine fin T103 _ _ _ (some (.int (1 : Int32))) X103 (fun q => nomatch q) (by decide) (by decide) (by rw [e103]; exact ⟨N103, rfl, rfl⟩) _ (own_retN X103 hx (z := (1 : Int32)) (t := .boolean) hret (by simp) (hb hby own_d27_29))
  · refine go _ _ (fun _ k => XS.icmpNo X0.here hx rfl (hb hby own_d27_2) rfl (flt hc2_101).1 k) ?_
    show G (s₁.setTop (mkF m 5 #[r' rr, i' (Int32.ofNat kn), i' (own_n (hs ++ (58 : Int32) :: ps)), .val .null, r' hh, r' pp] []))
    refine go _ _ (fun _ k => XS.iconst X0.here hx rfl (hb hby own_d27_5) k) ?_
    show G (s₁.setTop (mkF m 6 #[r' rr, i' (Int32.ofNat kn), i' (own_n (hs ++ (58 : Int32) :: ps)), .val .null, r' hh, r' pp] [(.int 1)]))
    refine fin s₁ _ _ _ (some (.int (1 : Int32))) X0 (fun q => nomatch q) (by decide) (by decide) (by rw [e0]; exact ⟨N0, rfl, rfl⟩) _ (own_retN X0 hx (z := (1 : Int32)) (t := .boolean) hret (by simp) (hb hby own_d27_6))
theorem own_d33_7 : decode method_5_code 7 = .ok (.iload 4, 2) := by decide +kernel
theorem own_d33_9 : decode method_5_code 9 = .ok (.aload_n 1, 1) := by decide +kernel
theorem own_d33_10 : decode method_5_code 10 = .ok (.invokevirtual 19, 3) := by decide +kernel
theorem own_d33_13 : decode method_5_code 13 = .ok (.if_icmp .ge 10, 3) := by decide +kernel
theorem own_d33_16 : decode method_5_code 16 = .ok (.aload_n 1, 1) := by decide +kernel
theorem own_d33_17 : decode method_5_code 17 = .ok (.iload 4, 2) := by decide +kernel
theorem own_d33_19 : decode method_5_code 19 = .ok (.invokevirtual 38, 3) := by decide +kernel
theorem own_d33_22 : decode method_5_code 22 = .ok (.ireturn, 1) := by decide +kernel
theorem own_d33_23 : decode method_5_code 23 = .ok (.iload 4, 2) := by decide +kernel
theorem own_d33_25 : decode method_5_code 25 = .ok (.aload_n 1, 1) := by decide +kernel
theorem own_d33_26 : decode method_5_code 26 = .ok (.invokevirtual 19, 3) := by decide +kernel
theorem own_d33_29 : decode method_5_code 29 = .ok (.if_icmp .ne 6, 3) := by decide +kernel
theorem own_d33_32 : decode method_5_code 32 = .ok (.bipush 64, 2) := by decide +kernel
theorem own_d33_34 : decode method_5_code 34 = .ok (.ireturn, 1) := by decide +kernel
theorem own_d33_35 : decode method_5_code 35 = .ok (.iload 4, 2) := by decide +kernel
theorem own_d33_37 : decode method_5_code 37 = .ok (.aload_n 1, 1) := by decide +kernel
theorem own_d33_38 : decode method_5_code 38 = .ok (.invokevirtual 19, 3) := by decide +kernel
theorem own_d33_41 : decode method_5_code 41 = .ok (.isub, 1) := by decide +kernel
theorem own_d33_42 : decode method_5_code 42 = .ok (.iconst 1, 1) := by decide +kernel
theorem own_d33_43 : decode method_5_code 43 = .ok (.isub, 1) := by decide +kernel
theorem own_d33_44 : decode method_5_code 44 = .ok (.istore 4, 2) := by decide +kernel
set_option maxHeartbeats 4000000 in
theorem own_ef_rmE10 (m : MethodId) (x0 : Int32) (x1 : Addr) (x2 : Addr) : entryFrame m #[(.int x0), (.ref x1), (.ref x2), .null] 5 = mkF m 0 #[.val (.int x0), .val (.ref x1), .val (.ref x2), .val .null, .unset] [] := by rfl
set_option maxRecDepth 65536 in
set_option maxHeartbeats 40000000 in
theorem rmE10 (l : Launch) (Z : State) (a0 : Array Value) (hw : ∀ d ∈ tables_1, d.before a0 Z = true) (z0 : Int32) (fm0 : Value) (gl : own_Gl Z z0 fm0) (ws : List Jvm.Cond) (ki : Int32) (uu : Addr) (hh : Addr) (us : List Int32) (hs : List Int32) (kn : Nat) (z : Int32) (h0 : Heap) (n0 : Nat) (Z0 : n0 ≤ h0.size) (Xo : Old Z n0 h0) (Euu : Exa Z h0 uu "java/lang/String") (Suu : own_S Z h0 uu us) (lus : us.length ≤ 2) (Ehh : Exa Z h0 hh "java/lang/String") (Shh : own_S Z h0 hh hs) (lhs : hs.length ≤ 2) (hk : ki = (Int32.ofNat kn)) (hz : (us ++ (64 : Int32) :: hs)[kn]? = some z) (hk7 : kn ≤ 7) (hbj : own_bd (us ++ (64 : Int32) :: hs)) :
    own_MetN l Z (⟨"com/example/naslov/naslov/UriJoinAuthorityPinLaw", "expected", "(ILjava/lang/String;Ljava/lang/String;Ljava/lang/String;)C"⟩ : MethodName) method_5_code 5 (some .char) ws ({ frames := 5, cells := 0, slots := 0, locals := 66 } : Room) #[(.int ki), (.ref uu), (.ref hh), .null] h0 (fun v h L => Fr n0 L ∧ h = h0 ∧ ((∃ (r1 : Int32), (v = some (.int r1)) ∧ (r1 = z)))) := by
  refine own_metN (plainFor_of_name own_pn9) ?_
  intro p e s m below meth c s₁ G hx hby hml hZ hown hnm hret X0 e0 go fin
  obtain ⟨O2, P5, O4, R4, O_ad, O_hi, O_lo⟩ := id gl
  have N0 := Fr.nil n0
  refine go _ _ (fun _ k => castTop (own_ef_rmE10 m ki uu hh) k) ?_
  show G (s₁.setTop (mkF m 0 #[i' ki, r' uu, r' hh, .val .null, u'] []))
  subst hk
  show G (s₁.setTop (mkF m 0 #[i' (Int32.ofNat kn), r' uu, r' hh, .val .null, u'] []))
  have hbJ := own_bdz hbj hz
  refine go _ _ (fun _ k => XS.iloadN X0.here hx rfl (hb hby own_d33_0) rfl (XS.istore X0.here hx rfl (hb hby own_d33_1) rfl (l' := #[i' (Int32.ofNat kn), r' uu, r' hh, .val .null, i' (Int32.ofNat kn)]) rfl (XS.aloadN X0.here hx rfl (hb hby own_d33_3) rfl rfl k))) ?_
  show G (s₁.setTop (mkF m 4 #[i' (Int32.ofNat kn), r' uu, r' hh, .val .null, i' (Int32.ofNat kn)] [(.ref uu)]))
  refine go _ _ (fun _ k => XS.ifnullNo X0.here hx rfl (hb hby own_d33_4) rfl k) ?_
  show G (s₁.setTop (mkF m 7 #[i' (Int32.ofNat kn), r' uu, r' hh, .val .null, i' (Int32.ofNat kn)] []))
  refine go _ _ (fun _ k => XS.iload X0.here hx rfl (hb hby own_d33_7) rfl (XS.aloadN X0.here hx rfl (hb hby own_d33_9) rfl rfl k)) ?_
  obtain ⟨rv101, T101, L101, X101, q101, st101⟩ := own_vi X0 hx hZ (y := (⟨"java/lang/String", "length", "()I"⟩ : MethodName)) (z := (⟨"java/lang/String", "length", "()I"⟩ : MethodName)) hown (ow hw 147 rfl) (ow hw 47 rfl) (ow hw 49 rfl) (ow hw 48 rfl) (Or.inl rfl) (by decide) (own_bkN (W := 1) (rm7 l Z a0 hw z0 fm0 gl [] uu us h0 n0 Z0 Xo Suu) hZ (ow hw 50 rfl) (ow hw 5 rfl) (by decide) (by decide)) e0 Euu (g := (mkF m 10 #[i' (Int32.ofNat kn), r' uu, r' hh, .val .null, i' (Int32.ofNat kn)] [(.ref uu), (.int (Int32.ofNat kn))])) rfl (by rw [hml]; rfl) (argsL := []) (rest := [(.int (Int32.ofNat kn))]) rfl (lenOf own_pd20 rfl) rfl (by show 2 * 0 + _ ≤ _; exact Nat.le_of_eq rfl) (hb hby own_d33_10) (by decide) (by decide)
  obtain ⟨Nq101, e101, rfl⟩ := q101
  have N101 := Fr.app N0 Nq101
  refine go _ _ (st101) ?_
  show G (T101.setTop (mkF m 13 #[i' (Int32.ofNat kn), r' uu, r' hh, .val .null, i' (Int32.ofNat kn)] [(.int (own_n us)), (.int (Int32.ofNat kn))]))
  by_cases hc13_102 : (Int32.ofNat kn) < (own_n us)
  · refine go _ _ (fun _ k => XS.icmpNo X101.here hx rfl (hb hby own_d33_13) rfl (tlt hc13_102).2.1 k) ?_
    show G (T101.setTop (mkF m 16 #[i' (Int32.ofNat kn), r' uu, r' hh, .val .null, i' (Int32.ofNat kn)] []))
    refine go _ _ (fun _ k => XS.aloadN X101.here hx rfl (hb hby own_d33_16) rfl rfl (XS.iload X101.here hx rfl (hb hby own_d33_17) rfl k)) ?_
    have hq := own_e1 hz (own_ltn hc13_102 (by omega) (by omega))
    obtain ⟨rv103, T103, L103, X103, q103, st103⟩ := own_vi X101 hx hZ (y := (⟨"java/lang/String", "charAt", "(I)C"⟩ : MethodName)) (z := (⟨"java/lang/String", "charAt", "(I)C"⟩ : MethodName)) hown (ow hw 151 rfl) (ow hw 152 rfl) (ow hw 154 rfl) (ow hw 153 rfl) (Or.inl rfl) (by decide) (own_bkN (W := 0) (rm28 l Z a0 hw z0 fm0 gl [] uu (Int32.ofNat kn) us kn z h0 n0 Z0 Xo Suu rfl hq) hZ (ow hw 155 rfl) (ow hw 5 rfl) (by decide) (by decide)) e101 Euu (g := (mkF m 19 #[i' (Int32.ofNat kn), r' uu, r' hh, .val .null, i' (Int32.ofNat kn)] [(.int (Int32.ofNat kn)), (.ref uu)])) rfl (by rw [hml]; rfl) (argsL := [(.int (Int32.ofNat kn))]) (rest := []) rfl (lenOf own_pd39 rfl) rfl (by show 2 * 0 + _ ≤ _; exact Nat.le_of_eq rfl) (hb hby own_d33_19) (by decide) (by decide)
    obtain ⟨Nq103, e103, rfl⟩ := q103
    have N103 := Fr.app N101 Nq103
    refine go _ _ (st103) ?_
    show G (T103.setTop (mkF m 22 #[i' (Int32.ofNat kn), r' uu, r' hh, .val .null, i' (Int32.ofNat kn)] [(.int z)]))
    refine fin T103 _ _ _ (some (.int (nar .char z))) X103 (fun q => nomatch q) (by decide) (by decide) (by rw [e103]; exact ⟨N103, rfl, ⟨z, (congrArg (fun z => some (Value.int z)) (own_nar16 hbJ.1 hbJ.2)), rfl⟩⟩) _ (own_retN X103 hx (z := z) (t := .char) hret (by simp) (hb hby own_d33_22))
  · refine go _ _ (fun _ k => XS.icmpYes X101.here hx rfl (pc0 := 13) (pc' := 23) rfl (hb hby own_d33_13) rfl (flt hc13_102).2.1 (by decide) (by decide) k) ?_
    show G (T101.setTop (mkF m 23 #[i' (Int32.ofNat kn), r' uu, r' hh, .val .null, i' (Int32.ofNat kn)] []))
    refine go _ _ (fun _ k => XS.iload X101.here hx rfl (hb hby own_d33_23) rfl (XS.aloadN X101.here hx rfl (hb hby own_d33_25) rfl rfl k)) ?_
    obtain ⟨rv104, T104, L104, X104, q104, st104⟩ := own_vi X101 hx hZ (y := (⟨"java/lang/String", "length", "()I"⟩ : MethodName)) (z := (⟨"java/lang/String", "length", "()I"⟩ : MethodName)) hown (ow hw 147 rfl) (ow hw 47 rfl) (ow hw 49 rfl) (ow hw 48 rfl) (Or.inl rfl) (by decide) (own_bkN (W := 1) (rm7 l Z a0 hw z0 fm0 gl [] uu us h0 n0 Z0 Xo Suu) hZ (ow hw 50 rfl) (ow hw 5 rfl) (by decide) (by decide)) e101 Euu (g := (mkF m 26 #[i' (Int32.ofNat kn), r' uu, r' hh, .val .null, i' (Int32.ofNat kn)] [(.ref uu), (.int (Int32.ofNat kn))])) rfl (by rw [hml]; rfl) (argsL := []) (rest := [(.int (Int32.ofNat kn))]) rfl (lenOf own_pd20 rfl) rfl (by show 2 * 0 + _ ≤ _; exact Nat.le_of_eq rfl) (hb hby own_d33_26) (by decide) (by decide)
    obtain ⟨Nq104, e104, rfl⟩ := q104
    have N104 := Fr.app N101 Nq104
    refine go _ _ (st104) ?_
    show G (T104.setTop (mkF m 29 #[i' (Int32.ofNat kn), r' uu, r' hh, .val .null, i' (Int32.ofNat kn)] [(.int (own_n us)), (.int (Int32.ofNat kn))]))
    by_cases hc29_105 : (Int32.ofNat kn) = (own_n us)
    · refine go _ _ (fun _ k => XS.icmpNo X104.here hx rfl (hb hby own_d33_29) rfl (teq hc29_105).2 k) ?_
      show G (T104.setTop (mkF m 32 #[i' (Int32.ofNat kn), r' uu, r' hh, .val .null, i' (Int32.ofNat kn)] []))
      refine go _ _ (fun _ k => XS.bipush X104.here hx rfl (hb hby own_d33_32) k) ?_
      show G (T104.setTop (mkF m 34 #[i' (Int32.ofNat kn), r' uu, r' hh, .val .null, i' (Int32.ofNat kn)] [(.int 64)]))
      refine fin T104 _ _ _ (some (.int (64 : Int32))) X104 (fun q => nomatch q) (by decide) (by decide) (by rw [e104]; exact ⟨N104, rfl, ⟨(64 : Int32), rfl, (own_e2 hz (own_eqn hc29_105 (by omega) (by omega)))⟩⟩) _ (own_retN X104 hx (z := (64 : Int32)) (t := .char) hret (by simp) (hb hby own_d33_34))
    · refine go _ _ (fun _ k => XS.icmpYes X104.here hx rfl (pc0 := 29) (pc' := 35) rfl (hb hby own_d33_29) rfl (feq hc29_105).2 (by decide) (by decide) k) ?_
      show G (T104.setTop (mkF m 35 #[i' (Int32.ofNat kn), r' uu, r' hh, .val .null, i' (Int32.ofNat kn)] []))
      refine go _ _ (fun _ k => XS.iload X104.here hx rfl (hb hby own_d33_35) rfl (XS.aloadN X104.here hx rfl (hb hby own_d33_37) rfl rfl k)) ?_
      obtain ⟨rv106, T106, L106, X106, q106, st106⟩ := own_vi X104 hx hZ (y := (⟨"java/lang/String", "length", "()I"⟩ : MethodName)) (z := (⟨"java/lang/String", "length", "()I"⟩ : MethodName)) hown (ow hw 147 rfl) (ow hw 47 rfl) (ow hw 49 rfl) (ow hw 48 rfl) (Or.inl rfl) (by decide) (own_bkN (W := 1) (rm7 l Z a0 hw z0 fm0 gl [] uu us h0 n0 Z0 Xo Suu) hZ (ow hw 50 rfl) (ow hw 5 rfl) (by decide) (by decide)) e104 Euu (g := (mkF m 38 #[i' (Int32.ofNat kn), r' uu, r' hh, .val .null, i' (Int32.ofNat kn)] [(.ref uu), (.int (Int32.ofNat kn))])) rfl (by rw [hml]; rfl) (argsL := []) (rest := [(.int (Int32.ofNat kn))]) rfl (lenOf own_pd20 rfl) rfl (by show 2 * 0 + _ ≤ _; exact Nat.le_of_eq rfl) (hb hby own_d33_38) (by decide) (by decide)
      obtain ⟨Nq106, e106, rfl⟩ := q106
      have N106 := Fr.app N104 Nq106
      refine go _ _ (st106) ?_
      show G (T106.setTop (mkF m 41 #[i' (Int32.ofNat kn), r' uu, r' hh, .val .null, i' (Int32.ofNat kn)] [(.int (own_n us)), (.int (Int32.ofNat kn))]))
      refine go _ _ (fun _ k => XS.isub X106.here hx rfl (hb hby own_d33_41) rfl (XS.iconst X106.here hx rfl (hb hby own_d33_42) (XS.isub X106.here hx rfl (hb hby own_d33_43) rfl (XS.istore X106.here hx rfl (hb hby own_d33_44) rfl (l' := #[i' (Int32.ofNat kn), r' uu, r' hh, .val .null, i' (((Int32.ofNat kn) - (own_n us)) - (1 : Int32))]) rfl k)))) ?_
      show G (T106.setTop (mkF m 46 #[i' (Int32.ofNat kn), r' uu, r' hh, .val .null, i' (((Int32.ofNat kn) - (own_n us)) - (1 : Int32))] []))
      have hgt : us.length < kn := by have q1 := own_gen hc13_102 (by omega) (by omega); have q2 := own_nen hc29_105; omega
      obtain ⟨km, ekm, hzm, hkm⟩ := own_e4 hz hgt (by omega)
      rw [ekm]
      show G (T106.setTop (mkF m 46 #[i' (Int32.ofNat kn), r' uu, r' hh, .val .null, i' (Int32.ofNat km)] []))
      refine go _ _ (fun _ k => XS.iload X106.here hx rfl (hb hby own_d33_46) rfl (XS.aloadN X106.here hx rfl (hb hby own_d33_48) rfl rfl k)) ?_
      obtain ⟨rv107, T107, L107, X107, q107, st107⟩ := own_vi X106 hx hZ (y := (⟨"java/lang/String", "length", "()I"⟩ : MethodName)) (z := (⟨"java/lang/String", "length", "()I"⟩ : MethodName)) hown (ow hw 147 rfl) (ow hw 47 rfl) (ow hw 49 rfl) (ow hw 48 rfl) (Or.inl rfl) (by decide) (own_bkN (W := 1) (rm7 l Z a0 hw z0 fm0 gl [] hh hs h0 n0 Z0 Xo Shh) hZ (ow hw 50 rfl) (ow hw 5 rfl) (by decide) (by decide)) e106 Ehh (g := (mkF m 49 #[i' (Int32.ofNat kn), r' uu, r' hh, .val .null, i' (Int32.ofNat km)] [(.ref hh), (.int (Int32.ofNat km))])) rfl (by rw [hml]; rfl) (argsL := []) (rest := [(.int (Int32.ofNat km))]) rfl (lenOf own_pd20 rfl) rfl (by show 2 * 0 + _ ≤ _; exact Nat.le_of_eq rfl) (hb hby own_d33_49) (by decide) (by decide)
      obtain ⟨Nq107, e107, rfl⟩ := q107
      have N107 := Fr.app N106 Nq107
      refine go _ _ (st107) ?_
      show G (T107.setTop (mkF m 52 #[i' (Int32.ofNat kn), r' uu, r' hh, .val .null, i' (Int32.ofNat km)] [(.int (own_n hs)), (.int (Int32.ofNat km))]))
      refine go _ _ (fun _ k => XS.icmpNo X107.here hx rfl (hb hby own_d33_52) rfl (tlt (own_jlt2 (own_gl hzm) (by omega))).2.1 k) ?_
      show G (T107.setTop (mkF m 55 #[i' (Int32.ofNat kn), r' uu, r' hh, .val .null, i' (Int32.ofNat km)] []))
      refine go _ _ (fun _ k => XS.aloadN X107.here hx rfl (hb hby own_d33_55) rfl rfl (XS.iload X107.here hx rfl (hb hby own_d33_56) rfl k)) ?_
      have hq : hs[km]? = some z := hzm
      obtain ⟨rv108, T108, L108, X108, q108, st108⟩ := own_vi X107 hx hZ (y := (⟨"java/lang/String", "charAt", "(I)C"⟩ : MethodName)) (z := (⟨"java/lang/String", "charAt", "(I)C"⟩ : MethodName)) hown (ow hw 151 rfl) (ow hw 152 rfl) (ow hw 154 rfl) (ow hw 153 rfl) (Or.inl rfl) (by decide) (own_bkN (W := 0) (rm28 l Z a0 hw z0 fm0 gl [] hh (Int32.ofNat km) hs km z h0 n0 Z0 Xo Shh rfl hq) hZ (ow hw 155 rfl) (ow hw 5 rfl) (by decide) (by decide)) e107 Ehh (g := (mkF m 58 #[i' (Int32.ofNat kn), r' uu, r' hh, .val .null, i' (Int32.ofNat km)] [(.int (Int32.ofNat km)), (.ref hh)])) rfl (by rw [hml]; rfl) (argsL := [(.int (Int32.ofNat km))]) (rest := []) rfl (lenOf own_pd39 rfl) rfl (by show 2 * 0 + _ ≤ _; exact Nat.le_of_eq rfl) (hb hby own_d33_58) (by decide) (by decide)
      obtain ⟨Nq108, e108, rfl⟩ := q108
      have N108 := Fr.app N107 Nq108
      refine go _ _ (st108) ?_
      show G (T108.setTop (mkF m 61 #[i' (Int32.ofNat kn), r' uu, r' hh, .val .null, i' (Int32.ofNat km)] [(.int z)]))
      refine fin T108 _ _ _ (some (.int (nar .char z))) X108 (fun q => nomatch q) (by decide) (by decide) (by rw [e108]; exact ⟨N108, rfl, ⟨z, (congrArg (fun z => some (Value.int z)) (own_nar16 hbJ.1 hbJ.2)), rfl⟩⟩) _ (own_retN X108 hx (z := z) (t := .char) hret (by simp) (hb hby own_d33_61))
set_option maxHeartbeats 4000000 in
theorem own_ef_rmA10 (m : MethodId) (x0 : Addr) (x1 : Int32) (x2 : Int32) (x3 : Addr) (x4 : Addr) : entryFrame m #[(.ref x0), (.int x1), (.int x2), (.ref x3), (.ref x4), .null] 6 = mkF m 0 #[.val (.ref x0), .val (.int x1), .val (.int x2), .val (.ref x3), .val (.ref x4), .val .null] [] := by rfl
set_option maxRecDepth 65536 in
set_option maxHeartbeats 40000000 in
theorem rmA10 (l : Launch) (Z : State) (a0 : Array Value) (hw : ∀ d ∈ tables_1, d.before a0 Z = true) (z0 : Int32) (fm0 : Value) (gl : own_Gl Z z0 fm0) (ws : List Jvm.Cond) (rr : Addr) (ki : Int32) (nn : Int32) (uu : Addr) (hh : Addr) (us : List Int32) (hs : List Int32) (kn : Nat) (h0 : Heap) (n0 : Nat) (Z0 : n0 ≤ h0.size) (Xo : Old Z n0 h0) (Err : Exa Z h0 rr "java/lang/String") (Srr : own_S Z h0 rr (us ++ (64 : Int32) :: hs)) (Euu : Exa Z h0 uu "java/lang/String") (Suu : own_S Z h0 uu us) (lus : us.length ≤ 2) (Ehh : Exa Z h0 hh "java/lang/String") (Shh : own_S Z h0 hh hs) (lhs : hs.length ≤ 2) (hk : ki = (Int32.ofNat kn)) (hn : nn = (own_n (us ++ (64 : Int32) :: hs))) (hk7 : kn ≤ 7) :
    own_MetN l Z (⟨"com/example/naslov/naslov/UriJoinAuthorityPinLaw", "at", "(Ljava/lang/String;IILjava/lang/String;Ljava/lang/String;Ljava/lang/String;)Z"⟩ : MethodName) method_4_code 6 (some .boolean) ws ({ frames := 6, cells := 0, slots := 0, locals := 83 } : Room) #[(.ref rr), (.int ki), (.int nn), (.ref uu), (.ref hh), .null] h0 (fun v h L => Fr n0 L ∧ h = h0 ∧ (((v = some (.int (1 : Int32)))))) := by
  refine own_metN (plainFor_of_name own_pn9) ?_
  intro p e s m below meth c s₁ G hx hby hml hZ hown hnm hret X0 e0 go fin
  obtain ⟨O2, P5, O4, R4, O_ad, O_hi, O_lo⟩ := id gl
  have N0 := Fr.nil n0
  refine go _ _ (fun _ k => castTop (own_ef_rmA10 m rr ki nn uu hh) k) ?_
  show G (s₁.setTop (mkF m 0 #[r' rr, i' ki, i' nn, r' uu, r' hh, .val .null] []))
  subst hk
  show G (s₁.setTop (mkF m 0 #[r' rr, i' (Int32.ofNat kn), i' nn, r' uu, r' hh, .val .null] []))
  subst hn
  show G (s₁.setTop (mkF m 0 #[r' rr, i' (Int32.ofNat kn), i' (own_n (us ++ (64 : Int32) :: hs)), r' uu, r' hh, .val .null] []))
  have hJl := own_S_len Srr
  have hJb := own_S_bd Srr
  refine go _ _ (fun _ k => XS.iloadN X0.here hx rfl (hb hby own_d27_0) rfl (XS.iloadN X0.here hx rfl (hb hby own_d27_1) rfl k)) ?_
  show G (s₁.setTop (mkF m 2 #[r' rr, i' (Int32.ofNat kn), i' (own_n (us ++ (64 : Int32) :: hs)), r' uu, r' hh, .val .null] [(.int (own_n (us ++ (64 : Int32) :: hs))), (.int (Int32.ofNat kn))]))
  by_cases hc2_101 : (Int32.ofNat kn) < (own_n (us ++ (64 : Int32) :: hs))
  · refine go _ _ (fun _ k => XS.icmpYes X0.here hx rfl (pc0 := 2) (pc' := 7) rfl (hb hby own_d27_2) rfl (tlt hc2_101).1 (by decide) (by decide) k) ?_
    show G (s₁.setTop (mkF m 7 #[r' rr, i' (Int32.ofNat kn), i' (own_n (us ++ (64 : Int32) :: hs)), r' uu, r' hh, .val .null] []))
    refine go _ _ (fun _ k => XS.aloadN X0.here hx rfl (hb hby own_d27_7) rfl rfl (XS.iloadN X0.here hx rfl (hb hby own_d27_8) rfl k)) ?_
    obtain ⟨z, hz⟩ := own_gz hc2_101 (by omega) hJl
    obtain ⟨rv102, T102, L102, X102, q102, st102⟩ := own_vi X0 hx hZ (y := (⟨"java/lang/String", "charAt", "(I)C"⟩ : MethodName)) (z := (⟨"java/lang/String", "charAt", "(I)C"⟩ : MethodName)) hown (ow hw 151 rfl) (ow hw 152 rfl) (ow hw 154 rfl) (ow hw 153 rfl) (Or.inl rfl) (by decide) (own_bkN (W := 0) (rm28 l Z a0 hw z0 fm0 gl [] rr (Int32.ofNat kn) (us ++ (64 : Int32) :: hs) kn z h0 n0 Z0 Xo Srr rfl hz) hZ (ow hw 155 rfl) (ow hw 5 rfl) (by decide) (by decide)) e0 Err (g := (mkF m 9 #[r' rr, i' (Int32.ofNat kn), i' (own_n (us ++ (64 : Int32) :: hs)), r' uu, r' hh, .val .null] [(.int (Int32.ofNat kn)), (.ref rr)])) rfl (by rw [hml]; rfl) (argsL := [(.int (Int32.ofNat kn))]) (rest := []) rfl (lenOf own_pd39 rfl) rfl (by show 2 * 0 + _ ≤ _; exact Nat.le_of_eq rfl) (hb hby own_d27_9) (by decide) (by decide)
    obtain ⟨Nq102, e102, rfl⟩ := q102
    have N102 := Fr.app N0 Nq102
    refine go _ _ (st102) ?_
    show G (T102.setTop (mkF m 12 #[r' rr, i' (Int32.ofNat kn), i' (own_n (us ++ (64 : Int32) :: hs)), r' uu, r' hh, .val .null] [(.int z)]))
    refine go _ _ (fun _ k => XS.iloadN X102.here hx rfl (hb hby own_d27_12) rfl (XS.aloadN X102.here hx rfl (hb hby own_d27_13) rfl rfl (XS.aload X102.here hx rfl (hb hby own_d27_14) rfl rfl (XS.aload X102.here hx rfl (hb hby own_d27_16) rfl rfl k)))) ?_
    obtain ⟨rv103, T103, L103, X103, q103, st103⟩ := own_st X102 hx hZ (y := (⟨"com/example/naslov/naslov/UriJoinAuthorityPinLaw", "expected", "(ILjava/lang/String;Ljava/lang/String;Ljava/lang/String;)C"⟩ : MethodName)) hown (ow hw 172 rfl) (ow hw 173 rfl) (ow hw 2 rfl) (ow hw 174 rfl) (by decide) (own_bkN (W := 1) (rmE10 l Z a0 hw z0 fm0 gl [] (Int32.ofNat kn) uu hh us hs kn z h0 n0 Z0 Xo Euu Suu lus Ehh Shh lhs rfl hz hk7 hJb) hZ (ow hw 174 rfl) (ow hw 2 rfl) (by decide) (by decide)) e102 (g := (mkF m 18 #[r' rr, i' (Int32.ofNat kn), i' (own_n (us ++ (64 : Int32) :: hs)), r' uu, r' hh, .val .null] [.null, (.ref hh), (.ref uu), (.int (Int32.ofNat kn)), (.int z)])) rfl (by rw [hml]; rfl) (argsL := [(.int (Int32.ofNat kn)), (.ref uu), (.ref hh), .null]) (rest := [(.int z)]) rfl (lenOf own_pd40 rfl) rfl (by show 2 * 0 + _ ≤ _; exact Nat.le_of_eq rfl) (hb hby own_d27_18) (by decide) (by decide)
    obtain ⟨Nq103, e103, ⟨r1_104, rfl, p105⟩⟩ := q103
    have N103 := Fr.app N102 Nq103
    refine go _ _ (st103) ?_
    show G (T103.setTop (mkF m 21 #[r' rr, i' (Int32.ofNat kn), i' (own_n (us ++ (64 : Int32) :: hs)), r' uu, r' hh, .val .null] [(.int r1_104), (.int z)]))
    refine go _ _ (fun _ k => XS.icmpNo X103.here hx rfl (hb hby own_d27_21) rfl (teq (Eq.symm p105)).2 k) ?_
    show G (T103.setTop (mkF m 24 #[r' rr, i' (Int32.ofNat kn), i' (own_n (us ++ (64 : Int32) :: hs)), r' uu, r' hh, .val .null] []))
    refine go _ _ (fun _ k => XS.iconst X103.here hx rfl (hb hby own_d27_24) k) ?_
    show G (T103.setTop (mkF m 25 #[r' rr, i' (Int32.ofNat kn), i' (own_n (us ++ (64 : Int32) :: hs)), r' uu, r' hh, .val .null] [(.int 1)]))
    refine go _ _ (fun _ k => XS.goto X103.here hx rfl (pc0 := 25) (pc' := 29) rfl (hb hby own_d27_25) (by decide) (by decide) k) ?_
    show G (T103.setTop (mkF m 29 #[r' rr, i' (Int32.ofNat kn), i' (own_n (us ++ (64 : Int32) :: hs)), r' uu, r' hh, .val .null] [(.int 1)]))
    refine fin T103 _ _ _ (some (.int (1 : Int32))) X103 (fun q => nomatch q) (by decide) (by decide) (by rw [e103]; exact ⟨N103, rfl, rfl⟩) _ (own_retN X103 hx (z := (1 : Int32)) (t := .boolean) hret (by simp) (hb hby own_d27_29))
  · refine go _ _ (fun _ k => XS.icmpNo X0.here hx rfl (hb hby own_d27_2) rfl (flt hc2_101).1 k) ?_
    show G (s₁.setTop (mkF m 5 #[r' rr, i' (Int32.ofNat kn), i' (own_n (us ++ (64 : Int32) :: hs)), r' uu, r' hh, .val .null] []))
    refine go _ _ (fun _ k => XS.iconst X0.here hx rfl (hb hby own_d27_5) k) ?_
    show G (s₁.setTop (mkF m 6 #[r' rr, i' (Int32.ofNat kn), i' (own_n (us ++ (64 : Int32) :: hs)), r' uu, r' hh, .val .null] [(.int 1)]))
    refine fin s₁ _ _ _ (some (.int (1 : Int32))) X0 (fun q => nomatch q) (by decide) (by decide) (by rw [e0]; exact ⟨N0, rfl, rfl⟩) _ (own_retN X0 hx (z := (1 : Int32)) (t := .boolean) hret (by simp) (hb hby own_d27_6))
set_option maxHeartbeats 4000000 in
theorem own_ef_rmE11 (m : MethodId) (x0 : Int32) (x1 : Addr) (x2 : Addr) (x3 : Addr) : entryFrame m #[(.int x0), (.ref x1), (.ref x2), (.ref x3)] 5 = mkF m 0 #[.val (.int x0), .val (.ref x1), .val (.ref x2), .val (.ref x3), .unset] [] := by rfl
set_option maxRecDepth 65536 in
set_option maxHeartbeats 40000000 in
theorem rmE11 (l : Launch) (Z : State) (a0 : Array Value) (hw : ∀ d ∈ tables_1, d.before a0 Z = true) (z0 : Int32) (fm0 : Value) (gl : own_Gl Z z0 fm0) (ws : List Jvm.Cond) (ki : Int32) (uu : Addr) (hh : Addr) (pp : Addr) (us : List Int32) (hs : List Int32) (ps : List Int32) (kn : Nat) (z : Int32) (h0 : Heap) (n0 : Nat) (Z0 : n0 ≤ h0.size) (Xo : Old Z n0 h0) (Euu : Exa Z h0 uu "java/lang/String") (Suu : own_S Z h0 uu us) (lus : us.length ≤ 2) (Ehh : Exa Z h0 hh "java/lang/String") (Shh : own_S Z h0 hh hs) (lhs : hs.length ≤ 2) (Epp : Exa Z h0 pp "java/lang/String") (Spp : own_S Z h0 pp ps) (lps : ps.length ≤ 2) (hk : ki = (Int32.ofNat kn)) (hz : (us ++ (64 : Int32) :: (hs ++ (58 : Int32) :: ps))[kn]? = some z) (hk7 : kn ≤ 7) (hbj : own_bd (us ++ (64 : Int32) :: (hs ++ (58 : Int32) :: ps))) :
    own_MetN l Z (⟨"com/example/naslov/naslov/UriJoinAuthorityPinLaw", "expected", "(ILjava/lang/String;Ljava/lang/String;Ljava/lang/String;)C"⟩ : MethodName) method_5_code 5 (some .char) ws ({ frames := 5, cells := 0, slots := 0, locals := 66 } : Room) #[(.int ki), (.ref uu), (.ref hh), (.ref pp)] h0 (fun v h L => Fr n0 L ∧ h = h0 ∧ ((∃ (r1 : Int32), (v = some (.int r1)) ∧ (r1 = z)))) := by
  refine own_metN (plainFor_of_name own_pn9) ?_
  intro p e s m below meth c s₁ G hx hby hml hZ hown hnm hret X0 e0 go fin
  obtain ⟨O2, P5, O4, R4, O_ad, O_hi, O_lo⟩ := id gl
  have N0 := Fr.nil n0
  refine go _ _ (fun _ k => castTop (own_ef_rmE11 m ki uu hh pp) k) ?_
  show G (s₁.setTop (mkF m 0 #[i' ki, r' uu, r' hh, r' pp, u'] []))
  subst hk
  show G (s₁.setTop (mkF m 0 #[i' (Int32.ofNat kn), r' uu, r' hh, r' pp, u'] []))
  have hbJ := own_bdz hbj hz
  refine go _ _ (fun _ k => XS.iloadN X0.here hx rfl (hb hby own_d33_0) rfl (XS.istore X0.here hx rfl (hb hby own_d33_1) rfl (l' := #[i' (Int32.ofNat kn), r' uu, r' hh, r' pp, i' (Int32.ofNat kn)]) rfl (XS.aloadN X0.here hx rfl (hb hby own_d33_3) rfl rfl k))) ?_
  show G (s₁.setTop (mkF m 4 #[i' (Int32.ofNat kn), r' uu, r' hh, r' pp, i' (Int32.ofNat kn)] [(.ref uu)]))
  refine go _ _ (fun _ k => XS.ifnullNo X0.here hx rfl (hb hby own_d33_4) rfl k) ?_
  show G (s₁.setTop (mkF m 7 #[i' (Int32.ofNat kn), r' uu, r' hh, r' pp, i' (Int32.ofNat kn)] []))
  refine go _ _ (fun _ k => XS.iload X0.here hx rfl (hb hby own_d33_7) rfl (XS.aloadN X0.here hx rfl (hb hby own_d33_9) rfl rfl k)) ?_
  obtain ⟨rv101, T101, L101, X101, q101, st101⟩ := own_vi X0 hx hZ (y := (⟨"java/lang/String", "length", "()I"⟩ : MethodName)) (z := (⟨"java/lang/String", "length", "()I"⟩ : MethodName)) hown (ow hw 147 rfl) (ow hw 47 rfl) (ow hw 49 rfl) (ow hw 48 rfl) (Or.inl rfl) (by decide) (own_bkN (W := 1) (rm7 l Z a0 hw z0 fm0 gl [] uu us h0 n0 Z0 Xo Suu) hZ (ow hw 50 rfl) (ow hw 5 rfl) (by decide) (by decide)) e0 Euu (g := (mkF m 10 #[i' (Int32.ofNat kn), r' uu, r' hh, r' pp, i' (Int32.ofNat kn)] [(.ref uu), (.int (Int32.ofNat kn))])) rfl (by rw [hml]; rfl) (argsL := []) (rest := [(.int (Int32.ofNat kn))]) rfl (lenOf own_pd20 rfl) rfl (by show 2 * 0 + _ ≤ _; exact Nat.le_of_eq rfl) (hb hby own_d33_10) (by decide) (by decide)
  obtain ⟨Nq101, e101, rfl⟩ := q101
  have N101 := Fr.app N0 Nq101
  refine go _ _ (st101) ?_
  show G (T101.setTop (mkF m 13 #[i' (Int32.ofNat kn), r' uu, r' hh, r' pp, i' (Int32.ofNat kn)] [(.int (own_n us)), (.int (Int32.ofNat kn))]))
  by_cases hc13_102 : (Int32.ofNat kn) < (own_n us)
  · refine go _ _ (fun _ k => XS.icmpNo X101.here hx rfl (hb hby own_d33_13) rfl (tlt hc13_102).2.1 k) ?_
    show G (T101.setTop (mkF m 16 #[i' (Int32.ofNat kn), r' uu, r' hh, r' pp, i' (Int32.ofNat kn)] []))
    refine go _ _ (fun _ k => XS.aloadN X101.here hx rfl (hb hby own_d33_16) rfl rfl (XS.iload X101.here hx rfl (hb hby own_d33_17) rfl k)) ?_
    have hq := own_e1 hz (own_ltn hc13_102 (by omega) (by omega))
    obtain ⟨rv103, T103, L103, X103, q103, st103⟩ := own_vi X101 hx hZ (y := (⟨"java/lang/String", "charAt", "(I)C"⟩ : MethodName)) (z := (⟨"java/lang/String", "charAt", "(I)C"⟩ : MethodName)) hown (ow hw 151 rfl) (ow hw 152 rfl) (ow hw 154 rfl) (ow hw 153 rfl) (Or.inl rfl) (by decide) (own_bkN (W := 0) (rm28 l Z a0 hw z0 fm0 gl [] uu (Int32.ofNat kn) us kn z h0 n0 Z0 Xo Suu rfl hq) hZ (ow hw 155 rfl) (ow hw 5 rfl) (by decide) (by decide)) e101 Euu (g := (mkF m 19 #[i' (Int32.ofNat kn), r' uu, r' hh, r' pp, i' (Int32.ofNat kn)] [(.int (Int32.ofNat kn)), (.ref uu)])) rfl (by rw [hml]; rfl) (argsL := [(.int (Int32.ofNat kn))]) (rest := []) rfl (lenOf own_pd39 rfl) rfl (by show 2 * 0 + _ ≤ _; exact Nat.le_of_eq rfl) (hb hby own_d33_19) (by decide) (by decide)
    obtain ⟨Nq103, e103, rfl⟩ := q103
    have N103 := Fr.app N101 Nq103
    refine go _ _ (st103) ?_
    show G (T103.setTop (mkF m 22 #[i' (Int32.ofNat kn), r' uu, r' hh, r' pp, i' (Int32.ofNat kn)] [(.int z)]))
    refine fin T103 _ _ _ (some (.int (nar .char z))) X103 (fun q => nomatch q) (by decide) (by decide) (by rw [e103]; exact ⟨N103, rfl, ⟨z, (congrArg (fun z => some (Value.int z)) (own_nar16 hbJ.1 hbJ.2)), rfl⟩⟩) _ (own_retN X103 hx (z := z) (t := .char) hret (by simp) (hb hby own_d33_22))
  · refine go _ _ (fun _ k => XS.icmpYes X101.here hx rfl (pc0 := 13) (pc' := 23) rfl (hb hby own_d33_13) rfl (flt hc13_102).2.1 (by decide) (by decide) k) ?_
    show G (T101.setTop (mkF m 23 #[i' (Int32.ofNat kn), r' uu, r' hh, r' pp, i' (Int32.ofNat kn)] []))
    refine go _ _ (fun _ k => XS.iload X101.here hx rfl (hb hby own_d33_23) rfl (XS.aloadN X101.here hx rfl (hb hby own_d33_25) rfl rfl k)) ?_
    obtain ⟨rv104, T104, L104, X104, q104, st104⟩ := own_vi X101 hx hZ (y := (⟨"java/lang/String", "length", "()I"⟩ : MethodName)) (z := (⟨"java/lang/String", "length", "()I"⟩ : MethodName)) hown (ow hw 147 rfl) (ow hw 47 rfl) (ow hw 49 rfl) (ow hw 48 rfl) (Or.inl rfl) (by decide) (own_bkN (W := 1) (rm7 l Z a0 hw z0 fm0 gl [] uu us h0 n0 Z0 Xo Suu) hZ (ow hw 50 rfl) (ow hw 5 rfl) (by decide) (by decide)) e101 Euu (g := (mkF m 26 #[i' (Int32.ofNat kn), r' uu, r' hh, r' pp, i' (Int32.ofNat kn)] [(.ref uu), (.int (Int32.ofNat kn))])) rfl (by rw [hml]; rfl) (argsL := []) (rest := [(.int (Int32.ofNat kn))]) rfl (lenOf own_pd20 rfl) rfl (by show 2 * 0 + _ ≤ _; exact Nat.le_of_eq rfl) (hb hby own_d33_26) (by decide) (by decide)
    obtain ⟨Nq104, e104, rfl⟩ := q104
    have N104 := Fr.app N101 Nq104
    refine go _ _ (st104) ?_
    show G (T104.setTop (mkF m 29 #[i' (Int32.ofNat kn), r' uu, r' hh, r' pp, i' (Int32.ofNat kn)] [(.int (own_n us)), (.int (Int32.ofNat kn))]))
    by_cases hc29_105 : (Int32.ofNat kn) = (own_n us)
    · refine go _ _ (fun _ k => XS.icmpNo X104.here hx rfl (hb hby own_d33_29) rfl (teq hc29_105).2 k) ?_
      show G (T104.setTop (mkF m 32 #[i' (Int32.ofNat kn), r' uu, r' hh, r' pp, i' (Int32.ofNat kn)] []))
      refine go _ _ (fun _ k => XS.bipush X104.here hx rfl (hb hby own_d33_32) k) ?_
      show G (T104.setTop (mkF m 34 #[i' (Int32.ofNat kn), r' uu, r' hh, r' pp, i' (Int32.ofNat kn)] [(.int 64)]))
      refine fin T104 _ _ _ (some (.int (64 : Int32))) X104 (fun q => nomatch q) (by decide) (by decide) (by rw [e104]; exact ⟨N104, rfl, ⟨(64 : Int32), rfl, (own_e2 hz (own_eqn hc29_105 (by omega) (by omega)))⟩⟩) _ (own_retN X104 hx (z := (64 : Int32)) (t := .char) hret (by simp) (hb hby own_d33_34))
    · refine go _ _ (fun _ k => XS.icmpYes X104.here hx rfl (pc0 := 29) (pc' := 35) rfl (hb hby own_d33_29) rfl (feq hc29_105).2 (by decide) (by decide) k) ?_
      show G (T104.setTop (mkF m 35 #[i' (Int32.ofNat kn), r' uu, r' hh, r' pp, i' (Int32.ofNat kn)] []))
      refine go _ _ (fun _ k => XS.iload X104.here hx rfl (hb hby own_d33_35) rfl (XS.aloadN X104.here hx rfl (hb hby own_d33_37) rfl rfl k)) ?_
      obtain ⟨rv106, T106, L106, X106, q106, st106⟩ := own_vi X104 hx hZ (y := (⟨"java/lang/String", "length", "()I"⟩ : MethodName)) (z := (⟨"java/lang/String", "length", "()I"⟩ : MethodName)) hown (ow hw 147 rfl) (ow hw 47 rfl) (ow hw 49 rfl) (ow hw 48 rfl) (Or.inl rfl) (by decide) (own_bkN (W := 1) (rm7 l Z a0 hw z0 fm0 gl [] uu us h0 n0 Z0 Xo Suu) hZ (ow hw 50 rfl) (ow hw 5 rfl) (by decide) (by decide)) e104 Euu (g := (mkF m 38 #[i' (Int32.ofNat kn), r' uu, r' hh, r' pp, i' (Int32.ofNat kn)] [(.ref uu), (.int (Int32.ofNat kn))])) rfl (by rw [hml]; rfl) (argsL := []) (rest := [(.int (Int32.ofNat kn))]) rfl (lenOf own_pd20 rfl) rfl (by show 2 * 0 + _ ≤ _; exact Nat.le_of_eq rfl) (hb hby own_d33_38) (by decide) (by decide)
      obtain ⟨Nq106, e106, rfl⟩ := q106
      have N106 := Fr.app N104 Nq106
      refine go _ _ (st106) ?_
      show G (T106.setTop (mkF m 41 #[i' (Int32.ofNat kn), r' uu, r' hh, r' pp, i' (Int32.ofNat kn)] [(.int (own_n us)), (.int (Int32.ofNat kn))]))
      refine go _ _ (fun _ k => XS.isub X106.here hx rfl (hb hby own_d33_41) rfl (XS.iconst X106.here hx rfl (hb hby own_d33_42) (XS.isub X106.here hx rfl (hb hby own_d33_43) rfl (XS.istore X106.here hx rfl (hb hby own_d33_44) rfl (l' := #[i' (Int32.ofNat kn), r' uu, r' hh, r' pp, i' (((Int32.ofNat kn) - (own_n us)) - (1 : Int32))]) rfl k)))) ?_
      show G (T106.setTop (mkF m 46 #[i' (Int32.ofNat kn), r' uu, r' hh, r' pp, i' (((Int32.ofNat kn) - (own_n us)) - (1 : Int32))] []))
      have hgt : us.length < kn := by have q1 := own_gen hc13_102 (by omega) (by omega); have q2 := own_nen hc29_105; omega
      obtain ⟨km, ekm, hzm, hkm⟩ := own_e4 hz hgt (by omega)
      rw [ekm]
      show G (T106.setTop (mkF m 46 #[i' (Int32.ofNat kn), r' uu, r' hh, r' pp, i' (Int32.ofNat km)] []))
      refine go _ _ (fun _ k => XS.iload X106.here hx rfl (hb hby own_d33_46) rfl (XS.aloadN X106.here hx rfl (hb hby own_d33_48) rfl rfl k)) ?_
      obtain ⟨rv107, T107, L107, X107, q107, st107⟩ := own_vi X106 hx hZ (y := (⟨"java/lang/String", "length", "()I"⟩ : MethodName)) (z := (⟨"java/lang/String", "length", "()I"⟩ : MethodName)) hown (ow hw 147 rfl) (ow hw 47 rfl) (ow hw 49 rfl) (ow hw 48 rfl) (Or.inl rfl) (by decide) (own_bkN (W := 1) (rm7 l Z a0 hw z0 fm0 gl [] hh hs h0 n0 Z0 Xo Shh) hZ (ow hw 50 rfl) (ow hw 5 rfl) (by decide) (by decide)) e106 Ehh (g := (mkF m 49 #[i' (Int32.ofNat kn), r' uu, r' hh, r' pp, i' (Int32.ofNat km)] [(.ref hh), (.int (Int32.ofNat km))])) rfl (by rw [hml]; rfl) (argsL := []) (rest := [(.int (Int32.ofNat km))]) rfl (lenOf own_pd20 rfl) rfl (by show 2 * 0 + _ ≤ _; exact Nat.le_of_eq rfl) (hb hby own_d33_49) (by decide) (by decide)
      obtain ⟨Nq107, e107, rfl⟩ := q107
      have N107 := Fr.app N106 Nq107
      refine go _ _ (st107) ?_
      show G (T107.setTop (mkF m 52 #[i' (Int32.ofNat kn), r' uu, r' hh, r' pp, i' (Int32.ofNat km)] [(.int (own_n hs)), (.int (Int32.ofNat km))]))
      by_cases hc52_108 : (Int32.ofNat km) < (own_n hs)
      · refine go _ _ (fun _ k => XS.icmpNo X107.here hx rfl (hb hby own_d33_52) rfl (tlt hc52_108).2.1 k) ?_
        show G (T107.setTop (mkF m 55 #[i' (Int32.ofNat kn), r' uu, r' hh, r' pp, i' (Int32.ofNat km)] []))
        refine go _ _ (fun _ k => XS.aloadN X107.here hx rfl (hb hby own_d33_55) rfl rfl (XS.iload X107.here hx rfl (hb hby own_d33_56) rfl k)) ?_
        have hq : hs[km]? = some z := own_e1 hzm (own_ltn hc52_108 (by omega) (by omega))
        obtain ⟨rv109, T109, L109, X109, q109, st109⟩ := own_vi X107 hx hZ (y := (⟨"java/lang/String", "charAt", "(I)C"⟩ : MethodName)) (z := (⟨"java/lang/String", "charAt", "(I)C"⟩ : MethodName)) hown (ow hw 151 rfl) (ow hw 152 rfl) (ow hw 154 rfl) (ow hw 153 rfl) (Or.inl rfl) (by decide) (own_bkN (W := 0) (rm28 l Z a0 hw z0 fm0 gl [] hh (Int32.ofNat km) hs km z h0 n0 Z0 Xo Shh rfl hq) hZ (ow hw 155 rfl) (ow hw 5 rfl) (by decide) (by decide)) e107 Ehh (g := (mkF m 58 #[i' (Int32.ofNat kn), r' uu, r' hh, r' pp, i' (Int32.ofNat km)] [(.int (Int32.ofNat km)), (.ref hh)])) rfl (by rw [hml]; rfl) (argsL := [(.int (Int32.ofNat km))]) (rest := []) rfl (lenOf own_pd39 rfl) rfl (by show 2 * 0 + _ ≤ _; exact Nat.le_of_eq rfl) (hb hby own_d33_58) (by decide) (by decide)
        obtain ⟨Nq109, e109, rfl⟩ := q109
        have N109 := Fr.app N107 Nq109
        refine go _ _ (st109) ?_
        show G (T109.setTop (mkF m 61 #[i' (Int32.ofNat kn), r' uu, r' hh, r' pp, i' (Int32.ofNat km)] [(.int z)]))
        refine fin T109 _ _ _ (some (.int (nar .char z))) X109 (fun q => nomatch q) (by decide) (by decide) (by rw [e109]; exact ⟨N109, rfl, ⟨z, (congrArg (fun z => some (Value.int z)) (own_nar16 hbJ.1 hbJ.2)), rfl⟩⟩) _ (own_retN X109 hx (z := z) (t := .char) hret (by simp) (hb hby own_d33_61))
      · refine go _ _ (fun _ k => XS.icmpYes X107.here hx rfl (pc0 := 52) (pc' := 62) rfl (hb hby own_d33_52) rfl (flt hc52_108).2.1 (by decide) (by decide) k) ?_
        show G (T107.setTop (mkF m 62 #[i' (Int32.ofNat kn), r' uu, r' hh, r' pp, i' (Int32.ofNat km)] []))
        refine go _ _ (fun _ k => XS.iload X107.here hx rfl (hb hby own_d33_62) rfl (XS.aloadN X107.here hx rfl (hb hby own_d33_64) rfl rfl k)) ?_
        obtain ⟨rv110, T110, L110, X110, q110, st110⟩ := own_vi X107 hx hZ (y := (⟨"java/lang/String", "length", "()I"⟩ : MethodName)) (z := (⟨"java/lang/String", "length", "()I"⟩ : MethodName)) hown (ow hw 147 rfl) (ow hw 47 rfl) (ow hw 49 rfl) (ow hw 48 rfl) (Or.inl rfl) (by decide) (own_bkN (W := 1) (rm7 l Z a0 hw z0 fm0 gl [] hh hs h0 n0 Z0 Xo Shh) hZ (ow hw 50 rfl) (ow hw 5 rfl) (by decide) (by decide)) e107 Ehh (g := (mkF m 65 #[i' (Int32.ofNat kn), r' uu, r' hh, r' pp, i' (Int32.ofNat km)] [(.ref hh), (.int (Int32.ofNat km))])) rfl (by rw [hml]; rfl) (argsL := []) (rest := [(.int (Int32.ofNat km))]) rfl (lenOf own_pd20 rfl) rfl (by show 2 * 0 + _ ≤ _; exact Nat.le_of_eq rfl) (hb hby own_d33_65) (by decide) (by decide)
        obtain ⟨Nq110, e110, rfl⟩ := q110
        have N110 := Fr.app N107 Nq110
        refine go _ _ (st110) ?_
        show G (T110.setTop (mkF m 68 #[i' (Int32.ofNat kn), r' uu, r' hh, r' pp, i' (Int32.ofNat km)] [(.int (own_n hs)), (.int (Int32.ofNat km))]))
        refine go _ _ (fun _ k => XS.isub X110.here hx rfl (hb hby own_d33_68) rfl (XS.istore X110.here hx rfl (hb hby own_d33_69) rfl (l' := #[i' (Int32.ofNat kn), r' uu, r' hh, r' pp, i' ((Int32.ofNat km) - (own_n hs))]) rfl (XS.iload X110.here hx rfl (hb hby own_d33_71) rfl k))) ?_
        show G (T110.setTop (mkF m 73 #[i' (Int32.ofNat kn), r' uu, r' hh, r' pp, i' ((Int32.ofNat km) - (own_n hs))] [(.int ((Int32.ofNat km) - (own_n hs)))]))
        by_cases hc73_111 : ((Int32.ofNat km) - (own_n hs)) = (0 : Int32)
        · refine go _ _ (fun _ k => XS.ifNo X110.here hx rfl (hb hby own_d33_73) rfl ((if0 _ _).trans (teq hc73_111).2) k) ?_
          show G (T110.setTop (mkF m 76 #[i' (Int32.ofNat kn), r' uu, r' hh, r' pp, i' ((Int32.ofNat km) - (own_n hs))] []))
          refine go _ _ (fun _ k => XS.bipush X110.here hx rfl (hb hby own_d33_76) k) ?_
          show G (T110.setTop (mkF m 78 #[i' (Int32.ofNat kn), r' uu, r' hh, r' pp, i' ((Int32.ofNat km) - (own_n hs))] [(.int 58)]))
          refine fin T110 _ _ _ (some (.int (58 : Int32))) X110 (fun q => nomatch q) (by decide) (by decide) (by rw [e110]; exact ⟨N110, rfl, ⟨(58 : Int32), rfl, (own_e2 hzm (own_e5 hc73_111 (own_gen hc52_108 (by omega) (by omega)) (by omega)))⟩⟩) _ (own_retN X110 hx (z := (58 : Int32)) (t := .char) hret (by simp) (hb hby own_d33_78))
        · refine go _ _ (fun _ k => XS.ifYes X110.here hx rfl (pc0 := 73) (pc' := 79) rfl (hb hby own_d33_73) rfl ((if0 _ _).trans (feq hc73_111).2) (by decide) (by decide) k) ?_
          show G (T110.setTop (mkF m 79 #[i' (Int32.ofNat kn), r' uu, r' hh, r' pp, i' ((Int32.ofNat km) - (own_n hs))] []))
          refine go _ _ (fun _ k => XS.aloadN X110.here hx rfl (hb hby own_d33_79) rfl rfl (XS.iload X110.here hx rfl (hb hby own_d33_80) rfl (XS.iconst X110.here hx rfl (hb hby own_d33_82) (XS.isub X110.here hx rfl (hb hby own_d33_83) rfl k)))) ?_
          show G (T110.setTop (mkF m 84 #[i' (Int32.ofNat kn), r' uu, r' hh, r' pp, i' ((Int32.ofNat km) - (own_n hs))] [(.int (((Int32.ofNat km) - (own_n hs)) - (1 : Int32))), (.ref pp)]))
          obtain ⟨kp, ekp, hzp, hkp⟩ := own_e4 hzm (own_e6 hc73_111 (own_gen hc52_108 (by omega) (by omega))) (by omega)
          rw [ekp]
          show G (T110.setTop (mkF m 84 #[i' (Int32.ofNat kn), r' uu, r' hh, r' pp, i' ((Int32.ofNat km) - (own_n hs))] [(.int (Int32.ofNat kp)), (.ref pp)]))
          obtain ⟨rv112, T112, L112, X112, q112, st112⟩ := own_vi X110 hx hZ (y := (⟨"java/lang/String", "charAt", "(I)C"⟩ : MethodName)) (z := (⟨"java/lang/String", "charAt", "(I)C"⟩ : MethodName)) hown (ow hw 151 rfl) (ow hw 152 rfl) (ow hw 154 rfl) (ow hw 153 rfl) (Or.inl rfl) (by decide) (own_bkN (W := 0) (rm28 l Z a0 hw z0 fm0 gl [] pp (Int32.ofNat kp) ps kp z h0 n0 Z0 Xo Spp rfl hzp) hZ (ow hw 155 rfl) (ow hw 5 rfl) (by decide) (by decide)) e110 Epp (g := (mkF m 84 #[i' (Int32.ofNat kn), r' uu, r' hh, r' pp, i' ((Int32.ofNat km) - (own_n hs))] [(.int (Int32.ofNat kp)), (.ref pp)])) rfl (by rw [hml]; rfl) (argsL := [(.int (Int32.ofNat kp))]) (rest := []) rfl (lenOf own_pd39 rfl) rfl (by show 2 * 0 + _ ≤ _; exact Nat.le_of_eq rfl) (hb hby own_d33_84) (by decide) (by decide)
          obtain ⟨Nq112, e112, rfl⟩ := q112
          have N112 := Fr.app N110 Nq112
          refine go _ _ (st112) ?_
          show G (T112.setTop (mkF m 87 #[i' (Int32.ofNat kn), r' uu, r' hh, r' pp, i' ((Int32.ofNat km) - (own_n hs))] [(.int z)]))
          refine fin T112 _ _ _ (some (.int (nar .char z))) X112 (fun q => nomatch q) (by decide) (by decide) (by rw [e112]; exact ⟨N112, rfl, ⟨z, (congrArg (fun z => some (Value.int z)) (own_nar16 hbJ.1 hbJ.2)), rfl⟩⟩) _ (own_retN X112 hx (z := z) (t := .char) hret (by simp) (hb hby own_d33_87))
set_option maxHeartbeats 4000000 in
theorem own_ef_rmA11 (m : MethodId) (x0 : Addr) (x1 : Int32) (x2 : Int32) (x3 : Addr) (x4 : Addr) (x5 : Addr) : entryFrame m #[(.ref x0), (.int x1), (.int x2), (.ref x3), (.ref x4), (.ref x5)] 6 = mkF m 0 #[.val (.ref x0), .val (.int x1), .val (.int x2), .val (.ref x3), .val (.ref x4), .val (.ref x5)] [] := by rfl
set_option maxRecDepth 65536 in
set_option maxHeartbeats 40000000 in
theorem rmA11 (l : Launch) (Z : State) (a0 : Array Value) (hw : ∀ d ∈ tables_1, d.before a0 Z = true) (z0 : Int32) (fm0 : Value) (gl : own_Gl Z z0 fm0) (ws : List Jvm.Cond) (rr : Addr) (ki : Int32) (nn : Int32) (uu : Addr) (hh : Addr) (pp : Addr) (us : List Int32) (hs : List Int32) (ps : List Int32) (kn : Nat) (h0 : Heap) (n0 : Nat) (Z0 : n0 ≤ h0.size) (Xo : Old Z n0 h0) (Err : Exa Z h0 rr "java/lang/String") (Srr : own_S Z h0 rr (us ++ (64 : Int32) :: (hs ++ (58 : Int32) :: ps))) (Euu : Exa Z h0 uu "java/lang/String") (Suu : own_S Z h0 uu us) (lus : us.length ≤ 2) (Ehh : Exa Z h0 hh "java/lang/String") (Shh : own_S Z h0 hh hs) (lhs : hs.length ≤ 2) (Epp : Exa Z h0 pp "java/lang/String") (Spp : own_S Z h0 pp ps) (lps : ps.length ≤ 2) (hk : ki = (Int32.ofNat kn)) (hn : nn = (own_n (us ++ (64 : Int32) :: (hs ++ (58 : Int32) :: ps)))) (hk7 : kn ≤ 7) :
    own_MetN l Z (⟨"com/example/naslov/naslov/UriJoinAuthorityPinLaw", "at", "(Ljava/lang/String;IILjava/lang/String;Ljava/lang/String;Ljava/lang/String;)Z"⟩ : MethodName) method_4_code 6 (some .boolean) ws ({ frames := 6, cells := 0, slots := 0, locals := 83 } : Room) #[(.ref rr), (.int ki), (.int nn), (.ref uu), (.ref hh), (.ref pp)] h0 (fun v h L => Fr n0 L ∧ h = h0 ∧ (((v = some (.int (1 : Int32)))))) := by
  refine own_metN (plainFor_of_name own_pn9) ?_
  intro p e s m below meth c s₁ G hx hby hml hZ hown hnm hret X0 e0 go fin
  obtain ⟨O2, P5, O4, R4, O_ad, O_hi, O_lo⟩ := id gl
  have N0 := Fr.nil n0
  refine go _ _ (fun _ k => castTop (own_ef_rmA11 m rr ki nn uu hh pp) k) ?_
  show G (s₁.setTop (mkF m 0 #[r' rr, i' ki, i' nn, r' uu, r' hh, r' pp] []))
  subst hk
  show G (s₁.setTop (mkF m 0 #[r' rr, i' (Int32.ofNat kn), i' nn, r' uu, r' hh, r' pp] []))
  subst hn
  show G (s₁.setTop (mkF m 0 #[r' rr, i' (Int32.ofNat kn), i' (own_n (us ++ (64 : Int32) :: (hs ++ (58 : Int32) :: ps))), r' uu, r' hh, r' pp] []))
  have hJl := own_S_len Srr
  have hJb := own_S_bd Srr
  refine go _ _ (fun _ k => XS.iloadN X0.here hx rfl (hb hby own_d27_0) rfl (XS.iloadN X0.here hx rfl (hb hby own_d27_1) rfl k)) ?_
  show G (s₁.setTop (mkF m 2 #[r' rr, i' (Int32.ofNat kn), i' (own_n (us ++ (64 : Int32) :: (hs ++ (58 : Int32) :: ps))), r' uu, r' hh, r' pp] [(.int (own_n (us ++ (64 : Int32) :: (hs ++ (58 : Int32) :: ps)))), (.int (Int32.ofNat kn))]))
  by_cases hc2_101 : (Int32.ofNat kn) < (own_n (us ++ (64 : Int32) :: (hs ++ (58 : Int32) :: ps)))
  · refine go _ _ (fun _ k => XS.icmpYes X0.here hx rfl (pc0 := 2) (pc' := 7) rfl (hb hby own_d27_2) rfl (tlt hc2_101).1 (by decide) (by decide) k) ?_
    show G (s₁.setTop (mkF m 7 #[r' rr, i' (Int32.ofNat kn), i' (own_n (us ++ (64 : Int32) :: (hs ++ (58 : Int32) :: ps))), r' uu, r' hh, r' pp] []))
    refine go _ _ (fun _ k => XS.aloadN X0.here hx rfl (hb hby own_d27_7) rfl rfl (XS.iloadN X0.here hx rfl (hb hby own_d27_8) rfl k)) ?_
    obtain ⟨z, hz⟩ := own_gz hc2_101 (by omega) hJl
    obtain ⟨rv102, T102, L102, X102, q102, st102⟩ := own_vi X0 hx hZ (y := (⟨"java/lang/String", "charAt", "(I)C"⟩ : MethodName)) (z := (⟨"java/lang/String", "charAt", "(I)C"⟩ : MethodName)) hown (ow hw 151 rfl) (ow hw 152 rfl) (ow hw 154 rfl) (ow hw 153 rfl) (Or.inl rfl) (by decide) (own_bkN (W := 0) (rm28 l Z a0 hw z0 fm0 gl [] rr (Int32.ofNat kn) (us ++ (64 : Int32) :: (hs ++ (58 : Int32) :: ps)) kn z h0 n0 Z0 Xo Srr rfl hz) hZ (ow hw 155 rfl) (ow hw 5 rfl) (by decide) (by decide)) e0 Err (g := (mkF m 9 #[r' rr, i' (Int32.ofNat kn), i' (own_n (us ++ (64 : Int32) :: (hs ++ (58 : Int32) :: ps))), r' uu, r' hh, r' pp] [(.int (Int32.ofNat kn)), (.ref rr)])) rfl (by rw [hml]; rfl) (argsL := [(.int (Int32.ofNat kn))]) (rest := []) rfl (lenOf own_pd39 rfl) rfl (by show 2 * 0 + _ ≤ _; exact Nat.le_of_eq rfl) (hb hby own_d27_9) (by decide) (by decide)
    obtain ⟨Nq102, e102, rfl⟩ := q102
    have N102 := Fr.app N0 Nq102
    refine go _ _ (st102) ?_
    show G (T102.setTop (mkF m 12 #[r' rr, i' (Int32.ofNat kn), i' (own_n (us ++ (64 : Int32) :: (hs ++ (58 : Int32) :: ps))), r' uu, r' hh, r' pp] [(.int z)]))
    refine go _ _ (fun _ k => XS.iloadN X102.here hx rfl (hb hby own_d27_12) rfl (XS.aloadN X102.here hx rfl (hb hby own_d27_13) rfl rfl (XS.aload X102.here hx rfl (hb hby own_d27_14) rfl rfl (XS.aload X102.here hx rfl (hb hby own_d27_16) rfl rfl k)))) ?_
    obtain ⟨rv103, T103, L103, X103, q103, st103⟩ := own_st X102 hx hZ (y := (⟨"com/example/naslov/naslov/UriJoinAuthorityPinLaw", "expected", "(ILjava/lang/String;Ljava/lang/String;Ljava/lang/String;)C"⟩ : MethodName)) hown (ow hw 172 rfl) (ow hw 173 rfl) (ow hw 2 rfl) (ow hw 174 rfl) (by decide) (own_bkN (W := 1) (rmE11 l Z a0 hw z0 fm0 gl [] (Int32.ofNat kn) uu hh pp us hs ps kn z h0 n0 Z0 Xo Euu Suu lus Ehh Shh lhs Epp Spp lps rfl hz hk7 hJb) hZ (ow hw 174 rfl) (ow hw 2 rfl) (by decide) (by decide)) e102 (g := (mkF m 18 #[r' rr, i' (Int32.ofNat kn), i' (own_n (us ++ (64 : Int32) :: (hs ++ (58 : Int32) :: ps))), r' uu, r' hh, r' pp] [(.ref pp), (.ref hh), (.ref uu), (.int (Int32.ofNat kn)), (.int z)])) rfl (by rw [hml]; rfl) (argsL := [(.int (Int32.ofNat kn)), (.ref uu), (.ref hh), (.ref pp)]) (rest := [(.int z)]) rfl (lenOf own_pd40 rfl) rfl (by show 2 * 0 + _ ≤ _; exact Nat.le_of_eq rfl) (hb hby own_d27_18) (by decide) (by decide)
    obtain ⟨Nq103, e103, ⟨r1_104, rfl, p105⟩⟩ := q103
    have N103 := Fr.app N102 Nq103
    refine go _ _ (st103) ?_
    show G (T103.setTop (mkF m 21 #[r' rr, i' (Int32.ofNat kn), i' (own_n (us ++ (64 : Int32) :: (hs ++ (58 : Int32) :: ps))), r' uu, r' hh, r' pp] [(.int r1_104), (.int z)]))
    refine go _ _ (fun _ k => XS.icmpNo X103.here hx rfl (hb hby own_d27_21) rfl (teq (Eq.symm p105)).2 k) ?_
    show G (T103.setTop (mkF m 24 #[r' rr, i' (Int32.ofNat kn), i' (own_n (us ++ (64 : Int32) :: (hs ++ (58 : Int32) :: ps))), r' uu, r' hh, r' pp] []))
    refine go _ _ (fun _ k => XS.iconst X103.here hx rfl (hb hby own_d27_24) k) ?_
    show G (T103.setTop (mkF m 25 #[r' rr, i' (Int32.ofNat kn), i' (own_n (us ++ (64 : Int32) :: (hs ++ (58 : Int32) :: ps))), r' uu, r' hh, r' pp] [(.int 1)]))
    refine go _ _ (fun _ k => XS.goto X103.here hx rfl (pc0 := 25) (pc' := 29) rfl (hb hby own_d27_25) (by decide) (by decide) k) ?_
    show G (T103.setTop (mkF m 29 #[r' rr, i' (Int32.ofNat kn), i' (own_n (us ++ (64 : Int32) :: (hs ++ (58 : Int32) :: ps))), r' uu, r' hh, r' pp] [(.int 1)]))
    refine fin T103 _ _ _ (some (.int (1 : Int32))) X103 (fun q => nomatch q) (by decide) (by decide) (by rw [e103]; exact ⟨N103, rfl, rfl⟩) _ (own_retN X103 hx (z := (1 : Int32)) (t := .boolean) hret (by simp) (hb hby own_d27_29))
  · refine go _ _ (fun _ k => XS.icmpNo X0.here hx rfl (hb hby own_d27_2) rfl (flt hc2_101).1 k) ?_
    show G (s₁.setTop (mkF m 5 #[r' rr, i' (Int32.ofNat kn), i' (own_n (us ++ (64 : Int32) :: (hs ++ (58 : Int32) :: ps))), r' uu, r' hh, r' pp] []))
    refine go _ _ (fun _ k => XS.iconst X0.here hx rfl (hb hby own_d27_5) k) ?_
    show G (s₁.setTop (mkF m 6 #[r' rr, i' (Int32.ofNat kn), i' (own_n (us ++ (64 : Int32) :: (hs ++ (58 : Int32) :: ps))), r' uu, r' hh, r' pp] [(.int 1)]))
    refine fin s₁ _ _ _ (some (.int (1 : Int32))) X0 (fun q => nomatch q) (by decide) (by decide) (by rw [e0]; exact ⟨N0, rfl, rfl⟩) _ (own_retN X0 hx (z := (1 : Int32)) (t := .boolean) hret (by simp) (hb hby own_d27_6))
theorem own_pd41 : parseMethodDescriptor "(ZII)Ljava/lang/String;" = some ⟨[.boolean, .int, .int], some (.object "java/lang/String")⟩ := by decide +kernel
theorem own_pd42 : parseMethodDescriptor "(Ljava/lang/String;Ljava/lang/String;Ljava/lang/String;)Ljava/lang/String;" = some ⟨[(.object "java/lang/String"), (.object "java/lang/String"), (.object "java/lang/String")], some (.object "java/lang/String")⟩ := by decide +kernel
theorem own_pd43 : parseMethodDescriptor "(Ljava/lang/String;IILjava/lang/String;Ljava/lang/String;Ljava/lang/String;)Z" = some ⟨[(.object "java/lang/String"), .int, .int, (.object "java/lang/String"), (.object "java/lang/String"), (.object "java/lang/String")], some .boolean⟩ := by decide +kernel
set_option maxHeartbeats 4000000 in
theorem own_ef_rmLaw (m : MethodId) (x0 : Int32) (x1 : Int32) (x2 : Int32) (x3 : Int32) : entryFrame m #[(.int x0), (.int x1), (.int x2), (.int x3)] maxLocals = mkF m 0 #[.val (.int x0), .val (.int x1), .val (.int x2), .val (.int x3), .unset, .unset, .unset, .unset, .unset, .unset, .unset] [] := by rfl
set_option maxRecDepth 65536 in
set_option maxHeartbeats 40000000 in
theorem rmLaw (l : Launch) (Z : State) (a0 : Array Value) (hw : ∀ d ∈ tables_1, d.before a0 Z = true) (z0 : Int32) (fm0 : Value) (gl : own_Gl Z z0 fm0) (ws : List Jvm.Cond) (p0 : Int32) (p1 : Int32) (p2 : Int32) (p3 : Int32) (h0 : Heap) (n0 : Nat) (Z0 : n0 ≤ h0.size) (Xo : Old Z n0 h0) :
    own_MetH l Z own_EL x code maxLocals ret ws room_1 #[(.int p0), (.int p1), (.int p2), (.int p3)] h0 (fun v h L => Fr n0 L ∧ Keep h0 h [] ∧ (((v = some (.int (1 : Int32)))))) := by
  refine own_metH (plainFor_of_name own_pn9) (own_hEL hw) ?_
  intro p e s m below meth c s₁ G hx hby hml hZ hown hnm hret X0 e0 hS C0 go fin
  obtain ⟨O2, P5, O4, R4, O_ad, O_hi, O_lo⟩ := id gl
  have N0 := Fr.nil n0
  refine go _ _ (fun _ k => castTop (own_ef_rmLaw m p0 p1 p2 p3) k) ?_
  show G (s₁.setTop (mkF m 0 #[i' p0, i' p1, i' p2, i' p3, u', u', u', u', u', u', u'] []))
  refine go _ _ (fun _ k => XS.iloadN X0.here hx rfl (hb hby at_0) rfl (XS.iconst X0.here hx rfl (hb hby at_1) (XS.iand X0.here hx rfl (hb hby at_2) rfl k))) ?_
  show G (s₁.setTop (mkF m 3 #[i' p0, i' p1, i' p2, i' p3, u', u', u', u', u', u', u'] [(.int (p3 &&& (1 : Int32)))]))
  by_cases hc3_101 : (p3 &&& (1 : Int32)) = (0 : Int32)
  · refine go _ _ (fun _ k => XS.ifYes X0.here hx rfl (pc0 := 3) (pc' := 10) rfl (hb hby at_3) rfl ((if0 _ _).trans (teq hc3_101).1) (by decide) (by decide) k) ?_
    show G (s₁.setTop (mkF m 10 #[i' p0, i' p1, i' p2, i' p3, u', u', u', u', u', u', u'] []))
    refine go _ _ (fun _ k => XS.iconst X0.here hx rfl (hb hby at_10) (XS.iloadN X0.here hx rfl (hb hby at_11) rfl (XS.iconst X0.here hx rfl (hb hby at_12) (XS.iushr X0.here hx rfl (hb hby at_13) rfl (XS.iconst X0.here hx rfl (hb hby at_14) (XS.iand X0.here hx rfl (hb hby at_15) rfl k)))))) ?_
    show G (s₁.setTop (mkF m 16 #[i' p0, i' p1, i' p2, i' p3, u', u', u', u', u', u', u'] [(.int (((p3.toUInt32 >>> ((3 : Int32) &&& 31).toUInt32).toInt32) &&& (3 : Int32))), (.int 0)]))
    refine go _ _ (fun _ k => XS.iconst X0.here hx rfl (hb hby at_16) k) ?_
    show G (s₁.setTop (mkF m 17 #[i' p0, i' p1, i' p2, i' p3, u', u', u', u', u', u', u'] [(.int 3), (.int (((p3.toUInt32 >>> ((3 : Int32) &&& 31).toUInt32).toInt32) &&& (3 : Int32))), (.int 0)]))
    refine go _ _ (fun _ k => iremM X0 hx rfl (hb hby at_17) rfl (by decide) k) ?_
    show G (s₁.setTop (mkF m 18 #[i' p0, i' p1, i' p2, i' p3, u', u', u', u', u', u', u'] [(.int ((((p3.toUInt32 >>> ((3 : Int32) &&& 31).toUInt32).toInt32) &&& (3 : Int32)) % (3 : Int32))), (.int 0)]))
    refine go _ _ (fun _ k => XS.iloadN X0.here hx rfl (hb hby at_18) rfl k) ?_
    obtain ⟨rv102, T102, L102, X102, q102, hZ102, hown102, hS102, C102, st102⟩ := own_stW X0 hx hZ (y := (⟨"com/example/naslov/naslov/UriJoinAuthorityPinLaw", "part", "(ZII)Ljava/lang/String;"⟩ : MethodName)) hown (ow hw 0 rfl) (ow hw 1 rfl) (ow hw 2 rfl) (ow hw 3 rfl) (by decide) (own_bkH (W := 0) (rm0 l Z a0 hw z0 fm0 gl [] (0 : Int32) ((((p3.toUInt32 >>> ((3 : Int32) &&& 31).toUInt32).toInt32) &&& (3 : Int32)) % (3 : Int32)) p0 h0 n0 Z0 Xo) hZ (ow hw 3 rfl) (ow hw 2 rfl) (by decide) (by decide) (own_hEL hw) C0.1) e0 hS (Nat.le_refl _) (g := (mkF m 19 #[i' p0, i' p1, i' p2, i' p3, u', u', u', u', u', u', u'] [(.int p0), (.int ((((p3.toUInt32 >>> ((3 : Int32) &&& 31).toUInt32).toInt32) &&& (3 : Int32)) % (3 : Int32))), (.int 0)])) rfl (by rw [hml]; rfl) (argsL := [(.int (0 : Int32)), (.int ((((p3.toUInt32 >>> ((3 : Int32) &&& 31).toUInt32).toInt32) &&& (3 : Int32)) % (3 : Int32))), (.int p0)]) (rest := []) rfl (lenOf own_pd41 rfl) rfl (by show 2 * 0 + _ ≤ _; exact Nat.le_of_eq rfl) (hb hby at_19) (by decide) (by decide)
    obtain ⟨Nq102, Kp102, q102⟩ := q102
    have N102 := Fr.app N0 Nq102
    rcases q102 with ⟨rfl, p103⟩ | ⟨b_104, cs_105, rfl, p106, p107, f108, f109⟩
    · exact absurd rfl p103
    · refine go _ _ (st102) ?_
      show G (T102.setTop (mkF m 22 #[i' p0, i' p1, i' p2, i' p3, u', u', u', u', u', u', u'] [(.ref b_104)]))
      refine go _ _ (fun _ k => XS.astore X102.here hx rfl (hb hby at_22) rfl rfl (l' := #[i' p0, i' p1, i' p2, i' p3, r' b_104, u', u', u', u', u', u']) rfl (XS.iloadN X102.here hx rfl (hb hby at_24) rfl (XS.iconst X102.here hx rfl (hb hby at_25) (XS.iand X102.here hx rfl (hb hby at_26) rfl k)))) ?_
      show G (T102.setTop (mkF m 27 #[i' p0, i' p1, i' p2, i' p3, r' b_104, u', u', u', u', u', u'] [(.int (p3 &&& (2 : Int32)))]))
      by_cases hc27_110 : (p3 &&& (2 : Int32)) = (0 : Int32)
      · refine go _ _ (fun _ k => XS.ifYes X102.here hx rfl (pc0 := 27) (pc' := 34) rfl (hb hby at_27) rfl ((if0 _ _).trans (teq hc27_110).1) (by decide) (by decide) k) ?_
        show G (T102.setTop (mkF m 34 #[i' p0, i' p1, i' p2, i' p3, r' b_104, u', u', u', u', u', u'] []))
        refine go _ _ (fun _ k => XS.iconst X102.here hx rfl (hb hby at_34) (XS.iloadN X102.here hx rfl (hb hby at_35) rfl (XS.iconst X102.here hx rfl (hb hby at_36) (XS.iushr X102.here hx rfl (hb hby at_37) rfl (XS.iconst X102.here hx rfl (hb hby at_38) (XS.iand X102.here hx rfl (hb hby at_39) rfl k)))))) ?_
        show G (T102.setTop (mkF m 40 #[i' p0, i' p1, i' p2, i' p3, r' b_104, u', u', u', u', u', u'] [(.int (((p3.toUInt32 >>> ((5 : Int32) &&& 31).toUInt32).toInt32) &&& (3 : Int32))), (.int 0)]))
        refine go _ _ (fun _ k => XS.iconst X102.here hx rfl (hb hby at_40) k) ?_
        show G (T102.setTop (mkF m 41 #[i' p0, i' p1, i' p2, i' p3, r' b_104, u', u', u', u', u', u'] [(.int 3), (.int (((p3.toUInt32 >>> ((5 : Int32) &&& 31).toUInt32).toInt32) &&& (3 : Int32))), (.int 0)]))
        refine go _ _ (fun _ k => iremM X102 hx rfl (hb hby at_41) rfl (by decide) k) ?_
        show G (T102.setTop (mkF m 42 #[i' p0, i' p1, i' p2, i' p3, r' b_104, u', u', u', u', u', u'] [(.int ((((p3.toUInt32 >>> ((5 : Int32) &&& 31).toUInt32).toInt32) &&& (3 : Int32)) % (3 : Int32))), (.int 0)]))
        refine go _ _ (fun _ k => XS.iloadN X102.here hx rfl (hb hby at_42) rfl k) ?_
        have K112 : Keep h0 T102.heap [] := (Keep.refl h0 []).trans Kp102 all0
        have F113 : Old Z n0 T102.heap := (Xo.keep K112 all0)
        have Z114 : h0.size ≤ T102.heap.size := Kp102.1
        have C115 : CHr Z own_EL s.vm h0 T102.vm T102.heap := C0.trans C102
        obtain ⟨rv111, T111, L111, X111, q111, hZ111, hown111, hS111, C111, st111⟩ := own_stW X102 hx hZ102 (y := (⟨"com/example/naslov/naslov/UriJoinAuthorityPinLaw", "part", "(ZII)Ljava/lang/String;"⟩ : MethodName)) hown102 (ow hw 0 rfl) (ow hw 1 rfl) (ow hw 2 rfl) (ow hw 3 rfl) (by decide) (own_bkH (W := 0) (rm0 l Z a0 hw z0 fm0 gl [] (0 : Int32) ((((p3.toUInt32 >>> ((5 : Int32) &&& 31).toUInt32).toInt32) &&& (3 : Int32)) % (3 : Int32)) p1 T102.heap n0 (Nat.le_trans Z0 Z114) F113) hZ102 (ow hw 3 rfl) (ow hw 2 rfl) (by decide) (by decide) (own_hEL hw) C115.1) rfl hS102 (Nat.le_refl _) (g := (mkF m 43 #[i' p0, i' p1, i' p2, i' p3, r' b_104, u', u', u', u', u', u'] [(.int p1), (.int ((((p3.toUInt32 >>> ((5 : Int32) &&& 31).toUInt32).toInt32) &&& (3 : Int32)) % (3 : Int32))), (.int 0)])) rfl (by rw [hml]; rfl) (argsL := [(.int (0 : Int32)), (.int ((((p3.toUInt32 >>> ((5 : Int32) &&& 31).toUInt32).toInt32) &&& (3 : Int32)) % (3 : Int32))), (.int p1)]) (rest := []) rfl (lenOf own_pd41 rfl) rfl (by show 2 * 0 + _ ≤ _; exact Nat.le_of_eq rfl) (hb hby at_43) (by decide) (by decide)
        obtain ⟨Nq111, Kp111, q111⟩ := q111
        have N111 := Fr.app N102 Nq111
        rcases q111 with ⟨rfl, p116⟩ | ⟨b_117, cs_118, rfl, p119, p120, f121, f122⟩
        · exact absurd p106 p116
        · refine go _ _ (st111) ?_
          show G (T111.setTop (mkF m 46 #[i' p0, i' p1, i' p2, i' p3, r' b_104, u', u', u', u', u', u'] [(.ref b_117)]))
          refine go _ _ (fun _ k => XS.astore X111.here hx rfl (hb hby at_46) rfl rfl (l' := #[i' p0, i' p1, i' p2, i' p3, r' b_104, r' b_117, u', u', u', u', u']) rfl (XS.iloadN X111.here hx rfl (hb hby at_48) rfl (XS.iconst X111.here hx rfl (hb hby at_49) (XS.iand X111.here hx rfl (hb hby at_50) rfl k)))) ?_
          show G (T111.setTop (mkF m 51 #[i' p0, i' p1, i' p2, i' p3, r' b_104, r' b_117, u', u', u', u', u'] [(.int (p3 &&& (4 : Int32)))]))
          by_cases hc51_123 : (p3 &&& (4 : Int32)) = (0 : Int32)
          · refine go _ _ (fun _ k => XS.ifYes X111.here hx rfl (pc0 := 51) (pc' := 58) rfl (hb hby at_51) rfl ((if0 _ _).trans (teq hc51_123).1) (by decide) (by decide) k) ?_
            show G (T111.setTop (mkF m 58 #[i' p0, i' p1, i' p2, i' p3, r' b_104, r' b_117, u', u', u', u', u'] []))
            refine go _ _ (fun _ k => XS.iconst X111.here hx rfl (hb hby at_58) (XS.iloadN X111.here hx rfl (hb hby at_59) rfl (XS.bipush X111.here hx rfl (hb hby at_60) (XS.iushr X111.here hx rfl (hb hby at_62) rfl (XS.iconst X111.here hx rfl (hb hby at_63) (XS.iand X111.here hx rfl (hb hby at_64) rfl k)))))) ?_
            show G (T111.setTop (mkF m 65 #[i' p0, i' p1, i' p2, i' p3, r' b_104, r' b_117, u', u', u', u', u'] [(.int (((p3.toUInt32 >>> ((7 : Int32) &&& 31).toUInt32).toInt32) &&& (3 : Int32))), (.int 0)]))
            refine go _ _ (fun _ k => XS.iconst X111.here hx rfl (hb hby at_65) k) ?_
            show G (T111.setTop (mkF m 66 #[i' p0, i' p1, i' p2, i' p3, r' b_104, r' b_117, u', u', u', u', u'] [(.int 3), (.int (((p3.toUInt32 >>> ((7 : Int32) &&& 31).toUInt32).toInt32) &&& (3 : Int32))), (.int 0)]))
            refine go _ _ (fun _ k => iremM X111 hx rfl (hb hby at_66) rfl (by decide) k) ?_
            show G (T111.setTop (mkF m 67 #[i' p0, i' p1, i' p2, i' p3, r' b_104, r' b_117, u', u', u', u', u'] [(.int ((((p3.toUInt32 >>> ((7 : Int32) &&& 31).toUInt32).toInt32) &&& (3 : Int32)) % (3 : Int32))), (.int 0)]))
            refine go _ _ (fun _ k => XS.iloadN X111.here hx rfl (hb hby at_67) rfl k) ?_
            have K125 : Keep T102.heap T111.heap [] := (Keep.refl T102.heap []).trans Kp111 all0
            have F126 : Old Z n0 T111.heap := (F113.keep K125 all0)
            have Z127 : h0.size ≤ T111.heap.size := Nat.le_trans Z114 Kp111.1
            have C128 : CHr Z own_EL s.vm h0 T111.vm T111.heap := C115.trans C111
            obtain ⟨rv124, T124, L124, X124, q124, hZ124, hown124, hS124, C124, st124⟩ := own_stW X111 hx hZ111 (y := (⟨"com/example/naslov/naslov/UriJoinAuthorityPinLaw", "part", "(ZII)Ljava/lang/String;"⟩ : MethodName)) hown111 (ow hw 0 rfl) (ow hw 1 rfl) (ow hw 2 rfl) (ow hw 3 rfl) (by decide) (own_bkH (W := 0) (rm0 l Z a0 hw z0 fm0 gl [] (0 : Int32) ((((p3.toUInt32 >>> ((7 : Int32) &&& 31).toUInt32).toInt32) &&& (3 : Int32)) % (3 : Int32)) p2 T111.heap n0 (Nat.le_trans Z0 Z127) F126) hZ111 (ow hw 3 rfl) (ow hw 2 rfl) (by decide) (by decide) (own_hEL hw) C128.1) rfl hS111 (Nat.le_refl _) (g := (mkF m 68 #[i' p0, i' p1, i' p2, i' p3, r' b_104, r' b_117, u', u', u', u', u'] [(.int p2), (.int ((((p3.toUInt32 >>> ((7 : Int32) &&& 31).toUInt32).toInt32) &&& (3 : Int32)) % (3 : Int32))), (.int 0)])) rfl (by rw [hml]; rfl) (argsL := [(.int (0 : Int32)), (.int ((((p3.toUInt32 >>> ((7 : Int32) &&& 31).toUInt32).toInt32) &&& (3 : Int32)) % (3 : Int32))), (.int p2)]) (rest := []) rfl (lenOf own_pd41 rfl) rfl (by show 2 * 0 + _ ≤ _; exact Nat.le_of_eq rfl) (hb hby at_68) (by decide) (by decide)
            obtain ⟨Nq124, Kp124, q124⟩ := q124
            have N124 := Fr.app N111 Nq124
            rcases q124 with ⟨rfl, p129⟩ | ⟨b_130, cs_131, rfl, p132, p133, f134, f135⟩
            · exact absurd p119 p129
            · refine go _ _ (st124) ?_
              show G (T124.setTop (mkF m 71 #[i' p0, i' p1, i' p2, i' p3, r' b_104, r' b_117, u', u', u', u', u'] [(.ref b_130)]))
              refine go _ _ (fun _ k => XS.astore X124.here hx rfl (hb hby at_71) rfl rfl (l' := #[i' p0, i' p1, i' p2, i' p3, r' b_104, r' b_117, r' b_130, u', u', u', u']) rfl (XS.aload X124.here hx rfl (hb hby at_73) rfl rfl (XS.aload X124.here hx rfl (hb hby at_75) rfl rfl (XS.aload X124.here hx rfl (hb hby at_77) rfl rfl k)))) ?_
              have K137 : Keep T111.heap T124.heap [] := (Keep.refl T111.heap []).trans Kp124 all0
              have F138 : Old Z n0 T124.heap := (F126.keep K137 all0)
              have K139 : Keep T102.heap T124.heap [] := K125.trans Kp124 all0
              have F140 : Exa Z T124.heap b_104 "java/lang/String" := (f108.keep K139)
              have F141 : own_S Z T124.heap b_104 cs_105 := (own_S_keep f109 K139)
              have F142 : Exa Z T124.heap b_117 "java/lang/String" := (f121.keep K137)
              have F143 : own_S Z T124.heap b_117 cs_118 := (own_S_keep f122 K137)
              have Z144 : h0.size ≤ T124.heap.size := Nat.le_trans Z127 Kp124.1
              obtain ⟨rv136, T136, L136, X136, q136, st136⟩ := own_st X124 hx hZ124 (y := (⟨"com/example/naslov/naslov/Uri", "joinAuthority", "(Ljava/lang/String;Ljava/lang/String;Ljava/lang/String;)Ljava/lang/String;"⟩ : MethodName)) hown124 (ow hw 12 rfl) (ow hw 13 rfl) (ow hw 14 rfl) (ow hw 15 rfl) (by decide) (own_bkN (W := 0) (rmJ11 l Z a0 hw z0 fm0 gl [] b_104 b_117 b_130 cs_105 cs_118 cs_131 T124.heap n0 (Nat.le_trans Z0 Z144) F138 F140 F141 p107 F142 F143 p120 f134 f135 p133) hZ124 (ow hw 15 rfl) (ow hw 14 rfl) (by decide) (by decide)) rfl (g := (mkF m 79 #[i' p0, i' p1, i' p2, i' p3, r' b_104, r' b_117, r' b_130, u', u', u', u'] [(.ref b_130), (.ref b_117), (.ref b_104)])) rfl (by rw [hml]; rfl) (argsL := [(.ref b_104), (.ref b_117), (.ref b_130)]) (rest := []) rfl (lenOf own_pd42 rfl) rfl (by show 2 * 0 + _ ≤ _; exact Nat.le_of_eq rfl) (hb hby at_79) (by decide) (by decide)
              obtain ⟨Nq136, Kp136, ⟨b_145, rfl, z146, f147, f148⟩⟩ := q136
              have N136 := Fr.app N124 Nq136
              refine go _ _ (st136) ?_
              show G (T136.setTop (mkF m 82 #[i' p0, i' p1, i' p2, i' p3, r' b_104, r' b_117, r' b_130, u', u', u', u'] [(.ref b_145)]))
              refine go _ _ (fun _ k => XS.astore X136.here hx rfl (hb hby at_82) rfl rfl (l' := #[i' p0, i' p1, i' p2, i' p3, r' b_104, r' b_117, r' b_130, r' b_145, u', u', u']) rfl (XS.aload X136.here hx rfl (hb hby at_84) rfl rfl k)) ?_
              show G (T136.setTop (mkF m 86 #[i' p0, i' p1, i' p2, i' p3, r' b_104, r' b_117, r' b_130, r' b_145, u', u', u'] [(.ref b_117)]))
              refine go _ _ (fun _ k => XS.ifnonnullYes X136.here hx rfl (pc0 := 86) (pc' := 100) rfl (hb hby at_86) rfl (by decide) (by decide) k) ?_
              show G (T136.setTop (mkF m 100 #[i' p0, i' p1, i' p2, i' p3, r' b_104, r' b_117, r' b_130, r' b_145, u', u', u'] []))
              refine go _ _ (fun _ k => XS.aload X136.here hx rfl (hb hby at_100) rfl rfl k) ?_
              show G (T136.setTop (mkF m 102 #[i' p0, i' p1, i' p2, i' p3, r' b_104, r' b_117, r' b_130, r' b_145, u', u', u'] [(.ref b_145)]))
              refine go _ _ (fun _ k => XS.ifnonnullYes X136.here hx rfl (pc0 := 102) (pc' := 107) rfl (hb hby at_102) rfl (by decide) (by decide) k) ?_
              show G (T136.setTop (mkF m 107 #[i' p0, i' p1, i' p2, i' p3, r' b_104, r' b_117, r' b_130, r' b_145, u', u', u'] []))
              refine go _ _ (fun _ k => XS.aload X136.here hx rfl (hb hby at_107) rfl rfl k) ?_
              show G (T136.setTop (mkF m 109 #[i' p0, i' p1, i' p2, i' p3, r' b_104, r' b_117, r' b_130, r' b_145, u', u', u'] [(.ref b_104)]))
              refine go _ _ (fun _ k => XS.ifnonnullYes X136.here hx rfl (pc0 := 109) (pc' := 116) rfl (hb hby at_109) rfl (by decide) (by decide) k) ?_
              show G (T136.setTop (mkF m 116 #[i' p0, i' p1, i' p2, i' p3, r' b_104, r' b_117, r' b_130, r' b_145, u', u', u'] []))
              refine go _ _ (fun _ k => XS.aload X136.here hx rfl (hb hby at_116) rfl rfl k) ?_
              have K150 : Keep T124.heap T136.heap [] := (Keep.refl T124.heap []).trans Kp136 all0
              have F151 : Old Z n0 T136.heap := (F138.keep K150 all0)
              have F152 : own_S Z T136.heap b_104 cs_105 := (own_S_keep F141 K150)
              have Z153 : h0.size ≤ T136.heap.size := Nat.le_trans Z144 Kp136.1
              have F154 : Exa Z T136.heap b_104 "java/lang/String" := (F140.keep K150)
              obtain ⟨rv149, T149, L149, X149, q149, st149⟩ := own_vi X136 hx hZ124 (y := (⟨"java/lang/String", "length", "()I"⟩ : MethodName)) (z := (⟨"java/lang/String", "length", "()I"⟩ : MethodName)) hown124 (ow hw 147 rfl) (ow hw 47 rfl) (ow hw 49 rfl) (ow hw 48 rfl) (Or.inl rfl) (by decide) (own_bkN (W := 0) (rm7 l Z a0 hw z0 fm0 gl [] b_104 cs_105 T136.heap n0 (Nat.le_trans Z0 Z153) F151 F152) hZ124 (ow hw 50 rfl) (ow hw 5 rfl) (by decide) (by decide)) rfl F154 (g := (mkF m 118 #[i' p0, i' p1, i' p2, i' p3, r' b_104, r' b_117, r' b_130, r' b_145, u', u', u'] [(.ref b_104)])) rfl (by rw [hml]; rfl) (argsL := []) (rest := []) rfl (lenOf own_pd20 rfl) rfl (by show 2 * 0 + _ ≤ _; exact Nat.le_of_eq rfl) (hb hby at_118) (by decide) (by decide)
              obtain ⟨Nq149, e149, rfl⟩ := q149
              have N149 := Fr.app N136 Nq149
              refine go _ _ (st149) ?_
              show G (T149.setTop (mkF m 121 #[i' p0, i' p1, i' p2, i' p3, r' b_104, r' b_117, r' b_130, r' b_145, u', u', u'] [(.int (own_n cs_105))]))
              refine go _ _ (fun _ k => XS.iconst X149.here hx rfl (hb hby at_121) (XS.iadd X149.here hx rfl (hb hby at_122) rfl k)) ?_
              show G (T149.setTop (mkF m 123 #[i' p0, i' p1, i' p2, i' p3, r' b_104, r' b_117, r' b_130, r' b_145, u', u', u'] [(.int ((own_n cs_105) + (1 : Int32)))]))
              obtain ⟨ul_155, ea155⟩ : ∃ z : Int32, ((own_n cs_105) + (1 : Int32)) = z := ⟨_, rfl⟩
              rw [ea155]
              show G (T149.setTop (mkF m 123 #[i' p0, i' p1, i' p2, i' p3, r' b_104, r' b_117, r' b_130, r' b_145, u', u', u'] [(.int ul_155)]))
              refine go _ _ (fun _ k => XS.istore X149.here hx rfl (hb hby at_123) rfl (l' := #[i' p0, i' p1, i' p2, i' p3, r' b_104, r' b_117, r' b_130, r' b_145, i' ul_155, u', u']) rfl (XS.aload X149.here hx rfl (hb hby at_125) rfl rfl k)) ?_
              show G (T149.setTop (mkF m 127 #[i' p0, i' p1, i' p2, i' p3, r' b_104, r' b_117, r' b_130, r' b_145, i' ul_155, u', u'] [(.ref b_130)]))
              refine go _ _ (fun _ k => XS.ifnonnullYes X149.here hx rfl (pc0 := 127) (pc' := 134) rfl (hb hby at_127) rfl (by decide) (by decide) k) ?_
              show G (T149.setTop (mkF m 134 #[i' p0, i' p1, i' p2, i' p3, r' b_104, r' b_117, r' b_130, r' b_145, i' ul_155, u', u'] []))
              refine go _ _ (fun _ k => XS.aload X149.here hx rfl (hb hby at_134) rfl rfl k) ?_
              have F157 : own_S Z T136.heap b_130 cs_131 := (own_S_keep f135 K150)
              have F158 : Exa Z T136.heap b_130 "java/lang/String" := (f134.keep K150)
              obtain ⟨rv156, T156, L156, X156, q156, st156⟩ := own_vi X149 hx hZ124 (y := (⟨"java/lang/String", "length", "()I"⟩ : MethodName)) (z := (⟨"java/lang/String", "length", "()I"⟩ : MethodName)) hown124 (ow hw 147 rfl) (ow hw 47 rfl) (ow hw 49 rfl) (ow hw 48 rfl) (Or.inl rfl) (by decide) (own_bkN (W := 0) (rm7 l Z a0 hw z0 fm0 gl [] b_130 cs_131 T136.heap n0 (Nat.le_trans Z0 Z153) F151 F157) hZ124 (ow hw 50 rfl) (ow hw 5 rfl) (by decide) (by decide)) e149 F158 (g := (mkF m 136 #[i' p0, i' p1, i' p2, i' p3, r' b_104, r' b_117, r' b_130, r' b_145, i' ul_155, u', u'] [(.ref b_130)])) rfl (by rw [hml]; rfl) (argsL := []) (rest := []) rfl (lenOf own_pd20 rfl) rfl (by show 2 * 0 + _ ≤ _; exact Nat.le_of_eq rfl) (hb hby at_136) (by decide) (by decide)
              obtain ⟨Nq156, e156, rfl⟩ := q156
              have N156 := Fr.app N149 Nq156
              refine go _ _ (st156) ?_
              show G (T156.setTop (mkF m 139 #[i' p0, i' p1, i' p2, i' p3, r' b_104, r' b_117, r' b_130, r' b_145, i' ul_155, u', u'] [(.int (own_n cs_131))]))
              refine go _ _ (fun _ k => XS.iconst X156.here hx rfl (hb hby at_139) (XS.iadd X156.here hx rfl (hb hby at_140) rfl k)) ?_
              show G (T156.setTop (mkF m 141 #[i' p0, i' p1, i' p2, i' p3, r' b_104, r' b_117, r' b_130, r' b_145, i' ul_155, u', u'] [(.int ((own_n cs_131) + (1 : Int32)))]))
              obtain ⟨pl_159, ea159⟩ : ∃ z : Int32, ((own_n cs_131) + (1 : Int32)) = z := ⟨_, rfl⟩
              rw [ea159]
              show G (T156.setTop (mkF m 141 #[i' p0, i' p1, i' p2, i' p3, r' b_104, r' b_117, r' b_130, r' b_145, i' ul_155, u', u'] [(.int pl_159)]))
              refine go _ _ (fun _ k => XS.istore X156.here hx rfl (hb hby at_141) rfl (l' := #[i' p0, i' p1, i' p2, i' p3, r' b_104, r' b_117, r' b_130, r' b_145, i' ul_155, i' pl_159, u']) rfl (XS.iload X156.here hx rfl (hb hby at_143) rfl (XS.aload X156.here hx rfl (hb hby at_145) rfl rfl k))) ?_
              have F161 : own_S Z T136.heap b_117 cs_118 := (own_S_keep F143 K150)
              have F162 : Exa Z T136.heap b_117 "java/lang/String" := (F142.keep K150)
              obtain ⟨rv160, T160, L160, X160, q160, st160⟩ := own_vi X156 hx hZ124 (y := (⟨"java/lang/String", "length", "()I"⟩ : MethodName)) (z := (⟨"java/lang/String", "length", "()I"⟩ : MethodName)) hown124 (ow hw 147 rfl) (ow hw 47 rfl) (ow hw 49 rfl) (ow hw 48 rfl) (Or.inl rfl) (by decide) (own_bkN (W := 1) (rm7 l Z a0 hw z0 fm0 gl [] b_117 cs_118 T136.heap n0 (Nat.le_trans Z0 Z153) F151 F161) hZ124 (ow hw 50 rfl) (ow hw 5 rfl) (by decide) (by decide)) e156 F162 (g := (mkF m 147 #[i' p0, i' p1, i' p2, i' p3, r' b_104, r' b_117, r' b_130, r' b_145, i' ul_155, i' pl_159, u'] [(.ref b_117), (.int ul_155)])) rfl (by rw [hml]; rfl) (argsL := []) (rest := [(.int ul_155)]) rfl (lenOf own_pd20 rfl) rfl (by show 2 * 0 + _ ≤ _; exact Nat.le_of_eq rfl) (hb hby at_147) (by decide) (by decide)
              obtain ⟨Nq160, e160, rfl⟩ := q160
              have N160 := Fr.app N156 Nq160
              refine go _ _ (st160) ?_
              show G (T160.setTop (mkF m 150 #[i' p0, i' p1, i' p2, i' p3, r' b_104, r' b_117, r' b_130, r' b_145, i' ul_155, i' pl_159, u'] [(.int (own_n cs_118)), (.int ul_155)]))
              refine go _ _ (fun _ k => XS.iadd X160.here hx rfl (hb hby at_150) rfl (XS.iload X160.here hx rfl (hb hby at_151) rfl (XS.iadd X160.here hx rfl (hb hby at_153) rfl k))) ?_
              show G (T160.setTop (mkF m 154 #[i' p0, i' p1, i' p2, i' p3, r' b_104, r' b_117, r' b_130, r' b_145, i' ul_155, i' pl_159, u'] [(.int ((ul_155 + (own_n cs_118)) + pl_159))]))
              obtain ⟨len_163, el163⟩ : ∃ z : Int32, own_n (cs_105 ++ (64 : Int32) :: (cs_118 ++ (58 : Int32) :: cs_131)) = z := ⟨_, rfl⟩
              have hl163 : ((ul_155 + (own_n cs_118)) + pl_159) = len_163 := by rw [← el163, ← ea155, ← ea159]; exact own_len11 cs_105 cs_118 cs_131
              rw [hl163]
              show G (T160.setTop (mkF m 154 #[i' p0, i' p1, i' p2, i' p3, r' b_104, r' b_117, r' b_130, r' b_145, i' ul_155, i' pl_159, u'] [(.int len_163)]))
              refine go _ _ (fun _ k => XS.istore X160.here hx rfl (hb hby at_154) rfl (l' := #[i' p0, i' p1, i' p2, i' p3, r' b_104, r' b_117, r' b_130, r' b_145, i' ul_155, i' pl_159, i' len_163]) rfl (XS.aload X160.here hx rfl (hb hby at_156) rfl rfl k)) ?_
              obtain ⟨rv164, T164, L164, X164, q164, st164⟩ := own_vi X160 hx hZ124 (y := (⟨"java/lang/String", "length", "()I"⟩ : MethodName)) (z := (⟨"java/lang/String", "length", "()I"⟩ : MethodName)) hown124 (ow hw 147 rfl) (ow hw 47 rfl) (ow hw 49 rfl) (ow hw 48 rfl) (Or.inl rfl) (by decide) (own_bkN (W := 0) (rm7 l Z a0 hw z0 fm0 gl [] b_145 (cs_105 ++ (64 : Int32) :: (cs_118 ++ (58 : Int32) :: cs_131)) T136.heap n0 (Nat.le_trans Z0 Z153) F151 f148) hZ124 (ow hw 50 rfl) (ow hw 5 rfl) (by decide) (by decide)) e160 f147 (g := (mkF m 158 #[i' p0, i' p1, i' p2, i' p3, r' b_104, r' b_117, r' b_130, r' b_145, i' ul_155, i' pl_159, i' len_163] [(.ref b_145)])) rfl (by rw [hml]; rfl) (argsL := []) (rest := []) rfl (lenOf own_pd20 rfl) rfl (by show 2 * 0 + _ ≤ _; exact Nat.le_of_eq rfl) (hb hby at_158) (by decide) (by decide)
              obtain ⟨Nq164, e164, rfl⟩ := q164
              have N164 := Fr.app N160 Nq164
              refine go _ _ (st164) ?_
              show G (T164.setTop (mkF m 161 #[i' p0, i' p1, i' p2, i' p3, r' b_104, r' b_117, r' b_130, r' b_145, i' ul_155, i' pl_159, i' len_163] [(.int (own_n (cs_105 ++ (64 : Int32) :: (cs_118 ++ (58 : Int32) :: cs_131))))]))
              refine go _ _ (fun _ k => XS.iload X164.here hx rfl (hb hby at_161) rfl k) ?_
              show G (T164.setTop (mkF m 163 #[i' p0, i' p1, i' p2, i' p3, r' b_104, r' b_117, r' b_130, r' b_145, i' ul_155, i' pl_159, i' len_163] [(.int len_163), (.int (own_n (cs_105 ++ (64 : Int32) :: (cs_118 ++ (58 : Int32) :: cs_131))))]))
              refine go _ _ (fun _ k => XS.icmpYes X164.here hx rfl (pc0 := 163) (pc' := 168) rfl (hb hby at_163) rfl (teq el163).1 (by decide) (by decide) k) ?_
              show G (T164.setTop (mkF m 168 #[i' p0, i' p1, i' p2, i' p3, r' b_104, r' b_117, r' b_130, r' b_145, i' ul_155, i' pl_159, i' len_163] []))
              refine go _ _ (fun _ k => XS.aload X164.here hx rfl (hb hby at_168) rfl rfl (XS.iconst X164.here hx rfl (hb hby at_170) (XS.iload X164.here hx rfl (hb hby at_171) rfl (XS.aload X164.here hx rfl (hb hby at_173) rfl rfl (XS.aload X164.here hx rfl (hb hby at_175) rfl rfl (XS.aload X164.here hx rfl (hb hby at_177) rfl rfl k)))))) ?_
              obtain ⟨rv165, T165, L165, X165, q165, st165⟩ := own_st X164 hx hZ124 (y := (⟨"com/example/naslov/naslov/UriJoinAuthorityPinLaw", "at", "(Ljava/lang/String;IILjava/lang/String;Ljava/lang/String;Ljava/lang/String;)Z"⟩ : MethodName)) hown124 (ow hw 148 rfl) (ow hw 149 rfl) (ow hw 2 rfl) (ow hw 150 rfl) (by decide) (own_bkN (W := 0) (rmA11 l Z a0 hw z0 fm0 gl [] b_145 (0 : Int32) len_163 b_104 b_117 b_130 cs_105 cs_118 cs_131 0 T136.heap n0 (Nat.le_trans Z0 Z153) F151 f147 f148 F154 F152 p107 F162 F161 p120 F158 F157 p133 rfl (Eq.symm el163) (by decide)) hZ124 (ow hw 150 rfl) (ow hw 2 rfl) (by decide) (by decide)) e164 (g := (mkF m 179 #[i' p0, i' p1, i' p2, i' p3, r' b_104, r' b_117, r' b_130, r' b_145, i' ul_155, i' pl_159, i' len_163] [(.ref b_130), (.ref b_117), (.ref b_104), (.int len_163), (.int 0), (.ref b_145)])) rfl (by rw [hml]; rfl) (argsL := [(.ref b_145), (.int (0 : Int32)), (.int len_163), (.ref b_104), (.ref b_117), (.ref b_130)]) (rest := []) rfl (lenOf own_pd43 rfl) rfl (by show 2 * 0 + _ ≤ _; exact Nat.le_of_eq rfl) (hb hby at_179) (by decide) (by decide)
              obtain ⟨Nq165, e165, rfl⟩ := q165
              have N165 := Fr.app N164 Nq165
              refine go _ _ (st165) ?_
              show G (T165.setTop (mkF m 182 #[i' p0, i' p1, i' p2, i' p3, r' b_104, r' b_117, r' b_130, r' b_145, i' ul_155, i' pl_159, i' len_163] [(.int 1)]))
              refine go _ _ (fun _ k => XS.ifNo X165.here hx rfl (hb hby at_182) rfl (by decide) k) ?_
              show G (T165.setTop (mkF m 185 #[i' p0, i' p1, i' p2, i' p3, r' b_104, r' b_117, r' b_130, r' b_145, i' ul_155, i' pl_159, i' len_163] []))
              refine go _ _ (fun _ k => XS.aload X165.here hx rfl (hb hby at_185) rfl rfl (XS.iconst X165.here hx rfl (hb hby at_187) (XS.iload X165.here hx rfl (hb hby at_188) rfl (XS.aload X165.here hx rfl (hb hby at_190) rfl rfl (XS.aload X165.here hx rfl (hb hby at_192) rfl rfl (XS.aload X165.here hx rfl (hb hby at_194) rfl rfl k)))))) ?_
              obtain ⟨rv166, T166, L166, X166, q166, st166⟩ := own_st X165 hx hZ124 (y := (⟨"com/example/naslov/naslov/UriJoinAuthorityPinLaw", "at", "(Ljava/lang/String;IILjava/lang/String;Ljava/lang/String;Ljava/lang/String;)Z"⟩ : MethodName)) hown124 (ow hw 148 rfl) (ow hw 149 rfl) (ow hw 2 rfl) (ow hw 150 rfl) (by decide) (own_bkN (W := 0) (rmA11 l Z a0 hw z0 fm0 gl [] b_145 (1 : Int32) len_163 b_104 b_117 b_130 cs_105 cs_118 cs_131 1 T136.heap n0 (Nat.le_trans Z0 Z153) F151 f147 f148 F154 F152 p107 F162 F161 p120 F158 F157 p133 rfl (Eq.symm el163) (by decide)) hZ124 (ow hw 150 rfl) (ow hw 2 rfl) (by decide) (by decide)) e165 (g := (mkF m 196 #[i' p0, i' p1, i' p2, i' p3, r' b_104, r' b_117, r' b_130, r' b_145, i' ul_155, i' pl_159, i' len_163] [(.ref b_130), (.ref b_117), (.ref b_104), (.int len_163), (.int 1), (.ref b_145)])) rfl (by rw [hml]; rfl) (argsL := [(.ref b_145), (.int (1 : Int32)), (.int len_163), (.ref b_104), (.ref b_117), (.ref b_130)]) (rest := []) rfl (lenOf own_pd43 rfl) rfl (by show 2 * 0 + _ ≤ _; exact Nat.le_of_eq rfl) (hb hby at_196) (by decide) (by decide)
              obtain ⟨Nq166, e166, rfl⟩ := q166
              have N166 := Fr.app N165 Nq166
              refine go _ _ (st166) ?_
              show G (T166.setTop (mkF m 199 #[i' p0, i' p1, i' p2, i' p3, r' b_104, r' b_117, r' b_130, r' b_145, i' ul_155, i' pl_159, i' len_163] [(.int 1)]))
              refine go _ _ (fun _ k => XS.ifNo X166.here hx rfl (hb hby at_199) rfl (by decide) k) ?_
              show G (T166.setTop (mkF m 202 #[i' p0, i' p1, i' p2, i' p3, r' b_104, r' b_117, r' b_130, r' b_145, i' ul_155, i' pl_159, i' len_163] []))
              refine go _ _ (fun _ k => XS.aload X166.here hx rfl (hb hby at_202) rfl rfl (XS.iconst X166.here hx rfl (hb hby at_204) (XS.iload X166.here hx rfl (hb hby at_205) rfl (XS.aload X166.here hx rfl (hb hby at_207) rfl rfl (XS.aload X166.here hx rfl (hb hby at_209) rfl rfl (XS.aload X166.here hx rfl (hb hby at_211) rfl rfl k)))))) ?_
              obtain ⟨rv167, T167, L167, X167, q167, st167⟩ := own_st X166 hx hZ124 (y := (⟨"com/example/naslov/naslov/UriJoinAuthorityPinLaw", "at", "(Ljava/lang/String;IILjava/lang/String;Ljava/lang/String;Ljava/lang/String;)Z"⟩ : MethodName)) hown124 (ow hw 148 rfl) (ow hw 149 rfl) (ow hw 2 rfl) (ow hw 150 rfl) (by decide) (own_bkN (W := 0) (rmA11 l Z a0 hw z0 fm0 gl [] b_145 (2 : Int32) len_163 b_104 b_117 b_130 cs_105 cs_118 cs_131 2 T136.heap n0 (Nat.le_trans Z0 Z153) F151 f147 f148 F154 F152 p107 F162 F161 p120 F158 F157 p133 rfl (Eq.symm el163) (by decide)) hZ124 (ow hw 150 rfl) (ow hw 2 rfl) (by decide) (by decide)) e166 (g := (mkF m 213 #[i' p0, i' p1, i' p2, i' p3, r' b_104, r' b_117, r' b_130, r' b_145, i' ul_155, i' pl_159, i' len_163] [(.ref b_130), (.ref b_117), (.ref b_104), (.int len_163), (.int 2), (.ref b_145)])) rfl (by rw [hml]; rfl) (argsL := [(.ref b_145), (.int (2 : Int32)), (.int len_163), (.ref b_104), (.ref b_117), (.ref b_130)]) (rest := []) rfl (lenOf own_pd43 rfl) rfl (by show 2 * 0 + _ ≤ _; exact Nat.le_of_eq rfl) (hb hby at_213) (by decide) (by decide)
              obtain ⟨Nq167, e167, rfl⟩ := q167
              have N167 := Fr.app N166 Nq167
              refine go _ _ (st167) ?_
              show G (T167.setTop (mkF m 216 #[i' p0, i' p1, i' p2, i' p3, r' b_104, r' b_117, r' b_130, r' b_145, i' ul_155, i' pl_159, i' len_163] [(.int 1)]))
              refine go _ _ (fun _ k => XS.ifNo X167.here hx rfl (hb hby at_216) rfl (by decide) k) ?_
              show G (T167.setTop (mkF m 219 #[i' p0, i' p1, i' p2, i' p3, r' b_104, r' b_117, r' b_130, r' b_145, i' ul_155, i' pl_159, i' len_163] []))
              refine go _ _ (fun _ k => XS.aload X167.here hx rfl (hb hby at_219) rfl rfl (XS.iconst X167.here hx rfl (hb hby at_221) (XS.iload X167.here hx rfl (hb hby at_222) rfl (XS.aload X167.here hx rfl (hb hby at_224) rfl rfl (XS.aload X167.here hx rfl (hb hby at_226) rfl rfl (XS.aload X167.here hx rfl (hb hby at_228) rfl rfl k)))))) ?_
              obtain ⟨rv168, T168, L168, X168, q168, st168⟩ := own_st X167 hx hZ124 (y := (⟨"com/example/naslov/naslov/UriJoinAuthorityPinLaw", "at", "(Ljava/lang/String;IILjava/lang/String;Ljava/lang/String;Ljava/lang/String;)Z"⟩ : MethodName)) hown124 (ow hw 148 rfl) (ow hw 149 rfl) (ow hw 2 rfl) (ow hw 150 rfl) (by decide) (own_bkN (W := 0) (rmA11 l Z a0 hw z0 fm0 gl [] b_145 (3 : Int32) len_163 b_104 b_117 b_130 cs_105 cs_118 cs_131 3 T136.heap n0 (Nat.le_trans Z0 Z153) F151 f147 f148 F154 F152 p107 F162 F161 p120 F158 F157 p133 rfl (Eq.symm el163) (by decide)) hZ124 (ow hw 150 rfl) (ow hw 2 rfl) (by decide) (by decide)) e167 (g := (mkF m 230 #[i' p0, i' p1, i' p2, i' p3, r' b_104, r' b_117, r' b_130, r' b_145, i' ul_155, i' pl_159, i' len_163] [(.ref b_130), (.ref b_117), (.ref b_104), (.int len_163), (.int 3), (.ref b_145)])) rfl (by rw [hml]; rfl) (argsL := [(.ref b_145), (.int (3 : Int32)), (.int len_163), (.ref b_104), (.ref b_117), (.ref b_130)]) (rest := []) rfl (lenOf own_pd43 rfl) rfl (by show 2 * 0 + _ ≤ _; exact Nat.le_of_eq rfl) (hb hby at_230) (by decide) (by decide)
              obtain ⟨Nq168, e168, rfl⟩ := q168
              have N168 := Fr.app N167 Nq168
              refine go _ _ (st168) ?_
              show G (T168.setTop (mkF m 233 #[i' p0, i' p1, i' p2, i' p3, r' b_104, r' b_117, r' b_130, r' b_145, i' ul_155, i' pl_159, i' len_163] [(.int 1)]))
              refine go _ _ (fun _ k => XS.ifNo X168.here hx rfl (hb hby at_233) rfl (by decide) k) ?_
              show G (T168.setTop (mkF m 236 #[i' p0, i' p1, i' p2, i' p3, r' b_104, r' b_117, r' b_130, r' b_145, i' ul_155, i' pl_159, i' len_163] []))
              refine go _ _ (fun _ k => XS.aload X168.here hx rfl (hb hby at_236) rfl rfl (XS.iconst X168.here hx rfl (hb hby at_238) (XS.iload X168.here hx rfl (hb hby at_239) rfl (XS.aload X168.here hx rfl (hb hby at_241) rfl rfl (XS.aload X168.here hx rfl (hb hby at_243) rfl rfl (XS.aload X168.here hx rfl (hb hby at_245) rfl rfl k)))))) ?_
              obtain ⟨rv169, T169, L169, X169, q169, st169⟩ := own_st X168 hx hZ124 (y := (⟨"com/example/naslov/naslov/UriJoinAuthorityPinLaw", "at", "(Ljava/lang/String;IILjava/lang/String;Ljava/lang/String;Ljava/lang/String;)Z"⟩ : MethodName)) hown124 (ow hw 148 rfl) (ow hw 149 rfl) (ow hw 2 rfl) (ow hw 150 rfl) (by decide) (own_bkN (W := 0) (rmA11 l Z a0 hw z0 fm0 gl [] b_145 (4 : Int32) len_163 b_104 b_117 b_130 cs_105 cs_118 cs_131 4 T136.heap n0 (Nat.le_trans Z0 Z153) F151 f147 f148 F154 F152 p107 F162 F161 p120 F158 F157 p133 rfl (Eq.symm el163) (by decide)) hZ124 (ow hw 150 rfl) (ow hw 2 rfl) (by decide) (by decide)) e168 (g := (mkF m 247 #[i' p0, i' p1, i' p2, i' p3, r' b_104, r' b_117, r' b_130, r' b_145, i' ul_155, i' pl_159, i' len_163] [(.ref b_130), (.ref b_117), (.ref b_104), (.int len_163), (.int 4), (.ref b_145)])) rfl (by rw [hml]; rfl) (argsL := [(.ref b_145), (.int (4 : Int32)), (.int len_163), (.ref b_104), (.ref b_117), (.ref b_130)]) (rest := []) rfl (lenOf own_pd43 rfl) rfl (by show 2 * 0 + _ ≤ _; exact Nat.le_of_eq rfl) (hb hby at_247) (by decide) (by decide)
              obtain ⟨Nq169, e169, rfl⟩ := q169
              have N169 := Fr.app N168 Nq169
              refine go _ _ (st169) ?_
              show G (T169.setTop (mkF m 250 #[i' p0, i' p1, i' p2, i' p3, r' b_104, r' b_117, r' b_130, r' b_145, i' ul_155, i' pl_159, i' len_163] [(.int 1)]))
              refine go _ _ (fun _ k => XS.ifNo X169.here hx rfl (hb hby at_250) rfl (by decide) k) ?_
              show G (T169.setTop (mkF m 253 #[i' p0, i' p1, i' p2, i' p3, r' b_104, r' b_117, r' b_130, r' b_145, i' ul_155, i' pl_159, i' len_163] []))
              refine go _ _ (fun _ k => XS.aload X169.here hx rfl (hb hby at_253) rfl rfl (XS.iconst X169.here hx rfl (hb hby at_255) (XS.iload X169.here hx rfl (hb hby at_256) rfl (XS.aload X169.here hx rfl (hb hby at_258) rfl rfl (XS.aload X169.here hx rfl (hb hby at_260) rfl rfl (XS.aload X169.here hx rfl (hb hby at_262) rfl rfl k)))))) ?_
              obtain ⟨rv170, T170, L170, X170, q170, st170⟩ := own_st X169 hx hZ124 (y := (⟨"com/example/naslov/naslov/UriJoinAuthorityPinLaw", "at", "(Ljava/lang/String;IILjava/lang/String;Ljava/lang/String;Ljava/lang/String;)Z"⟩ : MethodName)) hown124 (ow hw 148 rfl) (ow hw 149 rfl) (ow hw 2 rfl) (ow hw 150 rfl) (by decide) (own_bkN (W := 0) (rmA11 l Z a0 hw z0 fm0 gl [] b_145 (5 : Int32) len_163 b_104 b_117 b_130 cs_105 cs_118 cs_131 5 T136.heap n0 (Nat.le_trans Z0 Z153) F151 f147 f148 F154 F152 p107 F162 F161 p120 F158 F157 p133 rfl (Eq.symm el163) (by decide)) hZ124 (ow hw 150 rfl) (ow hw 2 rfl) (by decide) (by decide)) e169 (g := (mkF m 264 #[i' p0, i' p1, i' p2, i' p3, r' b_104, r' b_117, r' b_130, r' b_145, i' ul_155, i' pl_159, i' len_163] [(.ref b_130), (.ref b_117), (.ref b_104), (.int len_163), (.int 5), (.ref b_145)])) rfl (by rw [hml]; rfl) (argsL := [(.ref b_145), (.int (5 : Int32)), (.int len_163), (.ref b_104), (.ref b_117), (.ref b_130)]) (rest := []) rfl (lenOf own_pd43 rfl) rfl (by show 2 * 0 + _ ≤ _; exact Nat.le_of_eq rfl) (hb hby at_264) (by decide) (by decide)
              obtain ⟨Nq170, e170, rfl⟩ := q170
              have N170 := Fr.app N169 Nq170
              refine go _ _ (st170) ?_
              show G (T170.setTop (mkF m 267 #[i' p0, i' p1, i' p2, i' p3, r' b_104, r' b_117, r' b_130, r' b_145, i' ul_155, i' pl_159, i' len_163] [(.int 1)]))
              refine go _ _ (fun _ k => XS.ifNo X170.here hx rfl (hb hby at_267) rfl (by decide) k) ?_
              show G (T170.setTop (mkF m 270 #[i' p0, i' p1, i' p2, i' p3, r' b_104, r' b_117, r' b_130, r' b_145, i' ul_155, i' pl_159, i' len_163] []))
              refine go _ _ (fun _ k => XS.aload X170.here hx rfl (hb hby at_270) rfl rfl (XS.bipush X170.here hx rfl (hb hby at_272) (XS.iload X170.here hx rfl (hb hby at_274) rfl (XS.aload X170.here hx rfl (hb hby at_276) rfl rfl (XS.aload X170.here hx rfl (hb hby at_278) rfl rfl (XS.aload X170.here hx rfl (hb hby at_280) rfl rfl k)))))) ?_
              obtain ⟨rv171, T171, L171, X171, q171, st171⟩ := own_st X170 hx hZ124 (y := (⟨"com/example/naslov/naslov/UriJoinAuthorityPinLaw", "at", "(Ljava/lang/String;IILjava/lang/String;Ljava/lang/String;Ljava/lang/String;)Z"⟩ : MethodName)) hown124 (ow hw 148 rfl) (ow hw 149 rfl) (ow hw 2 rfl) (ow hw 150 rfl) (by decide) (own_bkN (W := 0) (rmA11 l Z a0 hw z0 fm0 gl [] b_145 (6 : Int32) len_163 b_104 b_117 b_130 cs_105 cs_118 cs_131 6 T136.heap n0 (Nat.le_trans Z0 Z153) F151 f147 f148 F154 F152 p107 F162 F161 p120 F158 F157 p133 rfl (Eq.symm el163) (by decide)) hZ124 (ow hw 150 rfl) (ow hw 2 rfl) (by decide) (by decide)) e170 (g := (mkF m 282 #[i' p0, i' p1, i' p2, i' p3, r' b_104, r' b_117, r' b_130, r' b_145, i' ul_155, i' pl_159, i' len_163] [(.ref b_130), (.ref b_117), (.ref b_104), (.int len_163), (.int 6), (.ref b_145)])) rfl (by rw [hml]; rfl) (argsL := [(.ref b_145), (.int (6 : Int32)), (.int len_163), (.ref b_104), (.ref b_117), (.ref b_130)]) (rest := []) rfl (lenOf own_pd43 rfl) rfl (by show 2 * 0 + _ ≤ _; exact Nat.le_of_eq rfl) (hb hby at_282) (by decide) (by decide)
              obtain ⟨Nq171, e171, rfl⟩ := q171
              have N171 := Fr.app N170 Nq171
              refine go _ _ (st171) ?_
              show G (T171.setTop (mkF m 285 #[i' p0, i' p1, i' p2, i' p3, r' b_104, r' b_117, r' b_130, r' b_145, i' ul_155, i' pl_159, i' len_163] [(.int 1)]))
              refine go _ _ (fun _ k => XS.ifNo X171.here hx rfl (hb hby at_285) rfl (by decide) k) ?_
              show G (T171.setTop (mkF m 288 #[i' p0, i' p1, i' p2, i' p3, r' b_104, r' b_117, r' b_130, r' b_145, i' ul_155, i' pl_159, i' len_163] []))
              refine go _ _ (fun _ k => XS.aload X171.here hx rfl (hb hby at_288) rfl rfl (XS.bipush X171.here hx rfl (hb hby at_290) (XS.iload X171.here hx rfl (hb hby at_292) rfl (XS.aload X171.here hx rfl (hb hby at_294) rfl rfl (XS.aload X171.here hx rfl (hb hby at_296) rfl rfl (XS.aload X171.here hx rfl (hb hby at_298) rfl rfl k)))))) ?_
              obtain ⟨rv172, T172, L172, X172, q172, st172⟩ := own_st X171 hx hZ124 (y := (⟨"com/example/naslov/naslov/UriJoinAuthorityPinLaw", "at", "(Ljava/lang/String;IILjava/lang/String;Ljava/lang/String;Ljava/lang/String;)Z"⟩ : MethodName)) hown124 (ow hw 148 rfl) (ow hw 149 rfl) (ow hw 2 rfl) (ow hw 150 rfl) (by decide) (own_bkN (W := 0) (rmA11 l Z a0 hw z0 fm0 gl [] b_145 (7 : Int32) len_163 b_104 b_117 b_130 cs_105 cs_118 cs_131 7 T136.heap n0 (Nat.le_trans Z0 Z153) F151 f147 f148 F154 F152 p107 F162 F161 p120 F158 F157 p133 rfl (Eq.symm el163) (by decide)) hZ124 (ow hw 150 rfl) (ow hw 2 rfl) (by decide) (by decide)) e171 (g := (mkF m 300 #[i' p0, i' p1, i' p2, i' p3, r' b_104, r' b_117, r' b_130, r' b_145, i' ul_155, i' pl_159, i' len_163] [(.ref b_130), (.ref b_117), (.ref b_104), (.int len_163), (.int 7), (.ref b_145)])) rfl (by rw [hml]; rfl) (argsL := [(.ref b_145), (.int (7 : Int32)), (.int len_163), (.ref b_104), (.ref b_117), (.ref b_130)]) (rest := []) rfl (lenOf own_pd43 rfl) rfl (by show 2 * 0 + _ ≤ _; exact Nat.le_of_eq rfl) (hb hby at_300) (by decide) (by decide)
              obtain ⟨Nq172, e172, rfl⟩ := q172
              have N172 := Fr.app N171 Nq172
              refine go _ _ (st172) ?_
              show G (T172.setTop (mkF m 303 #[i' p0, i' p1, i' p2, i' p3, r' b_104, r' b_117, r' b_130, r' b_145, i' ul_155, i' pl_159, i' len_163] [(.int 1)]))
              refine go _ _ (fun _ k => XS.ifNo X172.here hx rfl (hb hby at_303) rfl (by decide) k) ?_
              show G (T172.setTop (mkF m 306 #[i' p0, i' p1, i' p2, i' p3, r' b_104, r' b_117, r' b_130, r' b_145, i' ul_155, i' pl_159, i' len_163] []))
              refine go _ _ (fun _ k => XS.iconst X172.here hx rfl (hb hby at_306) k) ?_
              show G (T172.setTop (mkF m 307 #[i' p0, i' p1, i' p2, i' p3, r' b_104, r' b_117, r' b_130, r' b_145, i' ul_155, i' pl_159, i' len_163] [(.int 1)]))
              refine go _ _ (fun _ k => XS.goto X172.here hx rfl (pc0 := 307) (pc' := 311) rfl (hb hby at_307) (by decide) (by decide) k) ?_
              show G (T172.setTop (mkF m 311 #[i' p0, i' p1, i' p2, i' p3, r' b_104, r' b_117, r' b_130, r' b_145, i' ul_155, i' pl_159, i' len_163] [(.int 1)]))
              have K173 : Keep h0 T111.heap [] := K112.trans Kp111 all0
              have K174 : Keep h0 T124.heap [] := K173.trans Kp124 all0
              have K175 : Keep h0 T136.heap [] := K174.trans Kp136 all0
              have C176 : CHr Z own_EL s.vm h0 T124.vm T124.heap := C128.trans C124
              have C177 : CHr Z own_EL s.vm h0 T124.vm T136.heap := C176.trans (CHr.keep K150 sf0 C176.1)
              have Z178 : T124.heap.size ≤ T136.heap.size := Kp136.1
              refine fin T172 _ _ _ (some (.int (1 : Int32))) T124.vm _ X172 hZ124 hS124 (by rw [e172]; exact (Nat.le_trans (Nat.le_refl _) Z178)) (by rw [e172]; exact C177) (fun q => nomatch q) (by decide) (by decide) (by rw [e172]; exact ⟨N172, K175, rfl⟩) _ (own_retN X172 hx (z := (1 : Int32)) (t := .boolean) hret (by simp) (hb hby at_311))
          · refine go _ _ (fun _ k => XS.ifNo X111.here hx rfl (hb hby at_51) rfl ((if0 _ _).trans (feq hc51_123).1) k) ?_
            show G (T111.setTop (mkF m 54 #[i' p0, i' p1, i' p2, i' p3, r' b_104, r' b_117, u', u', u', u', u'] []))
            refine go _ _ (fun _ k => XS.iconst X111.here hx rfl (hb hby at_54) k) ?_
            show G (T111.setTop (mkF m 55 #[i' p0, i' p1, i' p2, i' p3, r' b_104, r' b_117, u', u', u', u', u'] [(.int 1)]))
            refine go _ _ (fun _ k => XS.goto X111.here hx rfl (pc0 := 55) (pc' := 59) rfl (hb hby at_55) (by decide) (by decide) k) ?_
            show G (T111.setTop (mkF m 59 #[i' p0, i' p1, i' p2, i' p3, r' b_104, r' b_117, u', u', u', u', u'] [(.int 1)]))
            refine go _ _ (fun _ k => XS.iloadN X111.here hx rfl (hb hby at_59) rfl (XS.bipush X111.here hx rfl (hb hby at_60) (XS.iushr X111.here hx rfl (hb hby at_62) rfl (XS.iconst X111.here hx rfl (hb hby at_63) (XS.iand X111.here hx rfl (hb hby at_64) rfl (XS.iconst X111.here hx rfl (hb hby at_65) k)))))) ?_
            show G (T111.setTop (mkF m 66 #[i' p0, i' p1, i' p2, i' p3, r' b_104, r' b_117, u', u', u', u', u'] [(.int 3), (.int (((p3.toUInt32 >>> ((7 : Int32) &&& 31).toUInt32).toInt32) &&& (3 : Int32))), (.int 1)]))
            refine go _ _ (fun _ k => iremM X111 hx rfl (hb hby at_66) rfl (by decide) k) ?_
            show G (T111.setTop (mkF m 67 #[i' p0, i' p1, i' p2, i' p3, r' b_104, r' b_117, u', u', u', u', u'] [(.int ((((p3.toUInt32 >>> ((7 : Int32) &&& 31).toUInt32).toInt32) &&& (3 : Int32)) % (3 : Int32))), (.int 1)]))
            refine go _ _ (fun _ k => XS.iloadN X111.here hx rfl (hb hby at_67) rfl k) ?_
            have K180 : Keep T102.heap T111.heap [] := (Keep.refl T102.heap []).trans Kp111 all0
            have F181 : Old Z n0 T111.heap := (F113.keep K180 all0)
            have Z182 : h0.size ≤ T111.heap.size := Nat.le_trans Z114 Kp111.1
            have C183 : CHr Z own_EL s.vm h0 T111.vm T111.heap := C115.trans C111
            obtain ⟨rv179, T179, L179, X179, q179, hZ179, hown179, hS179, C179, st179⟩ := own_stW X111 hx hZ111 (y := (⟨"com/example/naslov/naslov/UriJoinAuthorityPinLaw", "part", "(ZII)Ljava/lang/String;"⟩ : MethodName)) hown111 (ow hw 0 rfl) (ow hw 1 rfl) (ow hw 2 rfl) (ow hw 3 rfl) (by decide) (own_bkH (W := 0) (rm0 l Z a0 hw z0 fm0 gl [] (1 : Int32) ((((p3.toUInt32 >>> ((7 : Int32) &&& 31).toUInt32).toInt32) &&& (3 : Int32)) % (3 : Int32)) p2 T111.heap n0 (Nat.le_trans Z0 Z182) F181) hZ111 (ow hw 3 rfl) (ow hw 2 rfl) (by decide) (by decide) (own_hEL hw) C183.1) rfl hS111 (Nat.le_refl _) (g := (mkF m 68 #[i' p0, i' p1, i' p2, i' p3, r' b_104, r' b_117, u', u', u', u', u'] [(.int p2), (.int ((((p3.toUInt32 >>> ((7 : Int32) &&& 31).toUInt32).toInt32) &&& (3 : Int32)) % (3 : Int32))), (.int 1)])) rfl (by rw [hml]; rfl) (argsL := [(.int (1 : Int32)), (.int ((((p3.toUInt32 >>> ((7 : Int32) &&& 31).toUInt32).toInt32) &&& (3 : Int32)) % (3 : Int32))), (.int p2)]) (rest := []) rfl (lenOf own_pd41 rfl) rfl (by show 2 * 0 + _ ≤ _; exact Nat.le_of_eq rfl) (hb hby at_68) (by decide) (by decide)
            obtain ⟨Nq179, Kp179, q179⟩ := q179
            have N179 := Fr.app N111 Nq179
            rcases q179 with ⟨rfl, p184⟩ | ⟨b_185, cs_186, rfl, p187, p188, f189, f190⟩
            · refine go _ _ (st179) ?_
              show G (T179.setTop (mkF m 71 #[i' p0, i' p1, i' p2, i' p3, r' b_104, r' b_117, u', u', u', u', u'] [.null]))
              refine go _ _ (fun _ k => XS.astore X179.here hx rfl (hb hby at_71) rfl rfl (l' := #[i' p0, i' p1, i' p2, i' p3, r' b_104, r' b_117, .val .null, u', u', u', u']) rfl (XS.aload X179.here hx rfl (hb hby at_73) rfl rfl (XS.aload X179.here hx rfl (hb hby at_75) rfl rfl (XS.aload X179.here hx rfl (hb hby at_77) rfl rfl k)))) ?_
              have K192 : Keep T111.heap T179.heap [] := (Keep.refl T111.heap []).trans Kp179 all0
              have F193 : Old Z n0 T179.heap := (F181.keep K192 all0)
              have K194 : Keep T102.heap T179.heap [] := K180.trans Kp179 all0
              have F195 : Exa Z T179.heap b_104 "java/lang/String" := (f108.keep K194)
              have F196 : own_S Z T179.heap b_104 cs_105 := (own_S_keep f109 K194)
              have F197 : Exa Z T179.heap b_117 "java/lang/String" := (f121.keep K192)
              have F198 : own_S Z T179.heap b_117 cs_118 := (own_S_keep f122 K192)
              have Z199 : h0.size ≤ T179.heap.size := Nat.le_trans Z182 Kp179.1
              obtain ⟨rv191, T191, L191, X191, q191, st191⟩ := own_st X179 hx hZ179 (y := (⟨"com/example/naslov/naslov/Uri", "joinAuthority", "(Ljava/lang/String;Ljava/lang/String;Ljava/lang/String;)Ljava/lang/String;"⟩ : MethodName)) hown179 (ow hw 12 rfl) (ow hw 13 rfl) (ow hw 14 rfl) (ow hw 15 rfl) (by decide) (own_bkN (W := 0) (rmJ10 l Z a0 hw z0 fm0 gl [] b_104 b_117 cs_105 cs_118 T179.heap n0 (Nat.le_trans Z0 Z199) F193 F195 F196 p107 F197 F198 p120) hZ179 (ow hw 15 rfl) (ow hw 14 rfl) (by decide) (by decide)) rfl (g := (mkF m 79 #[i' p0, i' p1, i' p2, i' p3, r' b_104, r' b_117, .val .null, u', u', u', u'] [.null, (.ref b_117), (.ref b_104)])) rfl (by rw [hml]; rfl) (argsL := [(.ref b_104), (.ref b_117), .null]) (rest := []) rfl (lenOf own_pd42 rfl) rfl (by show 2 * 0 + _ ≤ _; exact Nat.le_of_eq rfl) (hb hby at_79) (by decide) (by decide)
              obtain ⟨Nq191, Kp191, ⟨b_200, rfl, z201, f202, f203⟩⟩ := q191
              have N191 := Fr.app N179 Nq191
              refine go _ _ (st191) ?_
              show G (T191.setTop (mkF m 82 #[i' p0, i' p1, i' p2, i' p3, r' b_104, r' b_117, .val .null, u', u', u', u'] [(.ref b_200)]))
              refine go _ _ (fun _ k => XS.astore X191.here hx rfl (hb hby at_82) rfl rfl (l' := #[i' p0, i' p1, i' p2, i' p3, r' b_104, r' b_117, .val .null, r' b_200, u', u', u']) rfl (XS.aload X191.here hx rfl (hb hby at_84) rfl rfl k)) ?_
              show G (T191.setTop (mkF m 86 #[i' p0, i' p1, i' p2, i' p3, r' b_104, r' b_117, .val .null, r' b_200, u', u', u'] [(.ref b_117)]))
              refine go _ _ (fun _ k => XS.ifnonnullYes X191.here hx rfl (pc0 := 86) (pc' := 100) rfl (hb hby at_86) rfl (by decide) (by decide) k) ?_
              show G (T191.setTop (mkF m 100 #[i' p0, i' p1, i' p2, i' p3, r' b_104, r' b_117, .val .null, r' b_200, u', u', u'] []))
              refine go _ _ (fun _ k => XS.aload X191.here hx rfl (hb hby at_100) rfl rfl k) ?_
              show G (T191.setTop (mkF m 102 #[i' p0, i' p1, i' p2, i' p3, r' b_104, r' b_117, .val .null, r' b_200, u', u', u'] [(.ref b_200)]))
              refine go _ _ (fun _ k => XS.ifnonnullYes X191.here hx rfl (pc0 := 102) (pc' := 107) rfl (hb hby at_102) rfl (by decide) (by decide) k) ?_
              show G (T191.setTop (mkF m 107 #[i' p0, i' p1, i' p2, i' p3, r' b_104, r' b_117, .val .null, r' b_200, u', u', u'] []))
              refine go _ _ (fun _ k => XS.aload X191.here hx rfl (hb hby at_107) rfl rfl k) ?_
              show G (T191.setTop (mkF m 109 #[i' p0, i' p1, i' p2, i' p3, r' b_104, r' b_117, .val .null, r' b_200, u', u', u'] [(.ref b_104)]))
              refine go _ _ (fun _ k => XS.ifnonnullYes X191.here hx rfl (pc0 := 109) (pc' := 116) rfl (hb hby at_109) rfl (by decide) (by decide) k) ?_
              show G (T191.setTop (mkF m 116 #[i' p0, i' p1, i' p2, i' p3, r' b_104, r' b_117, .val .null, r' b_200, u', u', u'] []))
              refine go _ _ (fun _ k => XS.aload X191.here hx rfl (hb hby at_116) rfl rfl k) ?_
              have K205 : Keep T179.heap T191.heap [] := (Keep.refl T179.heap []).trans Kp191 all0
              have F206 : Old Z n0 T191.heap := (F193.keep K205 all0)
              have F207 : own_S Z T191.heap b_104 cs_105 := (own_S_keep F196 K205)
              have Z208 : h0.size ≤ T191.heap.size := Nat.le_trans Z199 Kp191.1
              have F209 : Exa Z T191.heap b_104 "java/lang/String" := (F195.keep K205)
              obtain ⟨rv204, T204, L204, X204, q204, st204⟩ := own_vi X191 hx hZ179 (y := (⟨"java/lang/String", "length", "()I"⟩ : MethodName)) (z := (⟨"java/lang/String", "length", "()I"⟩ : MethodName)) hown179 (ow hw 147 rfl) (ow hw 47 rfl) (ow hw 49 rfl) (ow hw 48 rfl) (Or.inl rfl) (by decide) (own_bkN (W := 0) (rm7 l Z a0 hw z0 fm0 gl [] b_104 cs_105 T191.heap n0 (Nat.le_trans Z0 Z208) F206 F207) hZ179 (ow hw 50 rfl) (ow hw 5 rfl) (by decide) (by decide)) rfl F209 (g := (mkF m 118 #[i' p0, i' p1, i' p2, i' p3, r' b_104, r' b_117, .val .null, r' b_200, u', u', u'] [(.ref b_104)])) rfl (by rw [hml]; rfl) (argsL := []) (rest := []) rfl (lenOf own_pd20 rfl) rfl (by show 2 * 0 + _ ≤ _; exact Nat.le_of_eq rfl) (hb hby at_118) (by decide) (by decide)
              obtain ⟨Nq204, e204, rfl⟩ := q204
              have N204 := Fr.app N191 Nq204
              refine go _ _ (st204) ?_
              show G (T204.setTop (mkF m 121 #[i' p0, i' p1, i' p2, i' p3, r' b_104, r' b_117, .val .null, r' b_200, u', u', u'] [(.int (own_n cs_105))]))
              refine go _ _ (fun _ k => XS.iconst X204.here hx rfl (hb hby at_121) (XS.iadd X204.here hx rfl (hb hby at_122) rfl k)) ?_
              show G (T204.setTop (mkF m 123 #[i' p0, i' p1, i' p2, i' p3, r' b_104, r' b_117, .val .null, r' b_200, u', u', u'] [(.int ((own_n cs_105) + (1 : Int32)))]))
              obtain ⟨ul_210, ea210⟩ : ∃ z : Int32, ((own_n cs_105) + (1 : Int32)) = z := ⟨_, rfl⟩
              rw [ea210]
              show G (T204.setTop (mkF m 123 #[i' p0, i' p1, i' p2, i' p3, r' b_104, r' b_117, .val .null, r' b_200, u', u', u'] [(.int ul_210)]))
              refine go _ _ (fun _ k => XS.istore X204.here hx rfl (hb hby at_123) rfl (l' := #[i' p0, i' p1, i' p2, i' p3, r' b_104, r' b_117, .val .null, r' b_200, i' ul_210, u', u']) rfl (XS.aload X204.here hx rfl (hb hby at_125) rfl rfl k)) ?_
              show G (T204.setTop (mkF m 127 #[i' p0, i' p1, i' p2, i' p3, r' b_104, r' b_117, .val .null, r' b_200, i' ul_210, u', u'] [.null]))
              refine go _ _ (fun _ k => XS.ifnonnullNo X204.here hx rfl (hb hby at_127) rfl k) ?_
              show G (T204.setTop (mkF m 130 #[i' p0, i' p1, i' p2, i' p3, r' b_104, r' b_117, .val .null, r' b_200, i' ul_210, u', u'] []))
              refine go _ _ (fun _ k => XS.iconst X204.here hx rfl (hb hby at_130) k) ?_
              show G (T204.setTop (mkF m 131 #[i' p0, i' p1, i' p2, i' p3, r' b_104, r' b_117, .val .null, r' b_200, i' ul_210, u', u'] [(.int 0)]))
              refine go _ _ (fun _ k => XS.goto X204.here hx rfl (pc0 := 131) (pc' := 141) rfl (hb hby at_131) (by decide) (by decide) k) ?_
              show G (T204.setTop (mkF m 141 #[i' p0, i' p1, i' p2, i' p3, r' b_104, r' b_117, .val .null, r' b_200, i' ul_210, u', u'] [(.int 0)]))
              refine go _ _ (fun _ k => XS.istore X204.here hx rfl (hb hby at_141) rfl (l' := #[i' p0, i' p1, i' p2, i' p3, r' b_104, r' b_117, .val .null, r' b_200, i' ul_210, i' 0, u']) rfl (XS.iload X204.here hx rfl (hb hby at_143) rfl (XS.aload X204.here hx rfl (hb hby at_145) rfl rfl k))) ?_
              have F212 : own_S Z T191.heap b_117 cs_118 := (own_S_keep F198 K205)
              have F213 : Exa Z T191.heap b_117 "java/lang/String" := (F197.keep K205)
              obtain ⟨rv211, T211, L211, X211, q211, st211⟩ := own_vi X204 hx hZ179 (y := (⟨"java/lang/String", "length", "()I"⟩ : MethodName)) (z := (⟨"java/lang/String", "length", "()I"⟩ : MethodName)) hown179 (ow hw 147 rfl) (ow hw 47 rfl) (ow hw 49 rfl) (ow hw 48 rfl) (Or.inl rfl) (by decide) (own_bkN (W := 1) (rm7 l Z a0 hw z0 fm0 gl [] b_117 cs_118 T191.heap n0 (Nat.le_trans Z0 Z208) F206 F212) hZ179 (ow hw 50 rfl) (ow hw 5 rfl) (by decide) (by decide)) e204 F213 (g := (mkF m 147 #[i' p0, i' p1, i' p2, i' p3, r' b_104, r' b_117, .val .null, r' b_200, i' ul_210, i' 0, u'] [(.ref b_117), (.int ul_210)])) rfl (by rw [hml]; rfl) (argsL := []) (rest := [(.int ul_210)]) rfl (lenOf own_pd20 rfl) rfl (by show 2 * 0 + _ ≤ _; exact Nat.le_of_eq rfl) (hb hby at_147) (by decide) (by decide)
              obtain ⟨Nq211, e211, rfl⟩ := q211
              have N211 := Fr.app N204 Nq211
              refine go _ _ (st211) ?_
              show G (T211.setTop (mkF m 150 #[i' p0, i' p1, i' p2, i' p3, r' b_104, r' b_117, .val .null, r' b_200, i' ul_210, i' 0, u'] [(.int (own_n cs_118)), (.int ul_210)]))
              refine go _ _ (fun _ k => XS.iadd X211.here hx rfl (hb hby at_150) rfl (XS.iload X211.here hx rfl (hb hby at_151) rfl (XS.iadd X211.here hx rfl (hb hby at_153) rfl k))) ?_
              show G (T211.setTop (mkF m 154 #[i' p0, i' p1, i' p2, i' p3, r' b_104, r' b_117, .val .null, r' b_200, i' ul_210, i' 0, u'] [(.int ((ul_210 + (own_n cs_118)) + (0 : Int32)))]))
              obtain ⟨len_214, el214⟩ : ∃ z : Int32, own_n (cs_105 ++ (64 : Int32) :: cs_118) = z := ⟨_, rfl⟩
              have hl214 : ((ul_210 + (own_n cs_118)) + (0 : Int32)) = len_214 := by rw [← el214, ← ea210]; exact own_len10 cs_105 cs_118
              rw [hl214]
              show G (T211.setTop (mkF m 154 #[i' p0, i' p1, i' p2, i' p3, r' b_104, r' b_117, .val .null, r' b_200, i' ul_210, i' 0, u'] [(.int len_214)]))
              refine go _ _ (fun _ k => XS.istore X211.here hx rfl (hb hby at_154) rfl (l' := #[i' p0, i' p1, i' p2, i' p3, r' b_104, r' b_117, .val .null, r' b_200, i' ul_210, i' 0, i' len_214]) rfl (XS.aload X211.here hx rfl (hb hby at_156) rfl rfl k)) ?_
              obtain ⟨rv215, T215, L215, X215, q215, st215⟩ := own_vi X211 hx hZ179 (y := (⟨"java/lang/String", "length", "()I"⟩ : MethodName)) (z := (⟨"java/lang/String", "length", "()I"⟩ : MethodName)) hown179 (ow hw 147 rfl) (ow hw 47 rfl) (ow hw 49 rfl) (ow hw 48 rfl) (Or.inl rfl) (by decide) (own_bkN (W := 0) (rm7 l Z a0 hw z0 fm0 gl [] b_200 (cs_105 ++ (64 : Int32) :: cs_118) T191.heap n0 (Nat.le_trans Z0 Z208) F206 f203) hZ179 (ow hw 50 rfl) (ow hw 5 rfl) (by decide) (by decide)) e211 f202 (g := (mkF m 158 #[i' p0, i' p1, i' p2, i' p3, r' b_104, r' b_117, .val .null, r' b_200, i' ul_210, i' 0, i' len_214] [(.ref b_200)])) rfl (by rw [hml]; rfl) (argsL := []) (rest := []) rfl (lenOf own_pd20 rfl) rfl (by show 2 * 0 + _ ≤ _; exact Nat.le_of_eq rfl) (hb hby at_158) (by decide) (by decide)
              obtain ⟨Nq215, e215, rfl⟩ := q215
              have N215 := Fr.app N211 Nq215
              refine go _ _ (st215) ?_
              show G (T215.setTop (mkF m 161 #[i' p0, i' p1, i' p2, i' p3, r' b_104, r' b_117, .val .null, r' b_200, i' ul_210, i' 0, i' len_214] [(.int (own_n (cs_105 ++ (64 : Int32) :: cs_118)))]))
              refine go _ _ (fun _ k => XS.iload X215.here hx rfl (hb hby at_161) rfl k) ?_
              show G (T215.setTop (mkF m 163 #[i' p0, i' p1, i' p2, i' p3, r' b_104, r' b_117, .val .null, r' b_200, i' ul_210, i' 0, i' len_214] [(.int len_214), (.int (own_n (cs_105 ++ (64 : Int32) :: cs_118)))]))
              refine go _ _ (fun _ k => XS.icmpYes X215.here hx rfl (pc0 := 163) (pc' := 168) rfl (hb hby at_163) rfl (teq el214).1 (by decide) (by decide) k) ?_
              show G (T215.setTop (mkF m 168 #[i' p0, i' p1, i' p2, i' p3, r' b_104, r' b_117, .val .null, r' b_200, i' ul_210, i' 0, i' len_214] []))
              refine go _ _ (fun _ k => XS.aload X215.here hx rfl (hb hby at_168) rfl rfl (XS.iconst X215.here hx rfl (hb hby at_170) (XS.iload X215.here hx rfl (hb hby at_171) rfl (XS.aload X215.here hx rfl (hb hby at_173) rfl rfl (XS.aload X215.here hx rfl (hb hby at_175) rfl rfl (XS.aload X215.here hx rfl (hb hby at_177) rfl rfl k)))))) ?_
              obtain ⟨rv216, T216, L216, X216, q216, st216⟩ := own_st X215 hx hZ179 (y := (⟨"com/example/naslov/naslov/UriJoinAuthorityPinLaw", "at", "(Ljava/lang/String;IILjava/lang/String;Ljava/lang/String;Ljava/lang/String;)Z"⟩ : MethodName)) hown179 (ow hw 148 rfl) (ow hw 149 rfl) (ow hw 2 rfl) (ow hw 150 rfl) (by decide) (own_bkN (W := 0) (rmA10 l Z a0 hw z0 fm0 gl [] b_200 (0 : Int32) len_214 b_104 b_117 cs_105 cs_118 0 T191.heap n0 (Nat.le_trans Z0 Z208) F206 f202 f203 F209 F207 p107 F213 F212 p120 rfl (Eq.symm el214) (by decide)) hZ179 (ow hw 150 rfl) (ow hw 2 rfl) (by decide) (by decide)) e215 (g := (mkF m 179 #[i' p0, i' p1, i' p2, i' p3, r' b_104, r' b_117, .val .null, r' b_200, i' ul_210, i' 0, i' len_214] [.null, (.ref b_117), (.ref b_104), (.int len_214), (.int 0), (.ref b_200)])) rfl (by rw [hml]; rfl) (argsL := [(.ref b_200), (.int (0 : Int32)), (.int len_214), (.ref b_104), (.ref b_117), .null]) (rest := []) rfl (lenOf own_pd43 rfl) rfl (by show 2 * 0 + _ ≤ _; exact Nat.le_of_eq rfl) (hb hby at_179) (by decide) (by decide)
              obtain ⟨Nq216, e216, rfl⟩ := q216
              have N216 := Fr.app N215 Nq216
              refine go _ _ (st216) ?_
              show G (T216.setTop (mkF m 182 #[i' p0, i' p1, i' p2, i' p3, r' b_104, r' b_117, .val .null, r' b_200, i' ul_210, i' 0, i' len_214] [(.int 1)]))
              refine go _ _ (fun _ k => XS.ifNo X216.here hx rfl (hb hby at_182) rfl (by decide) k) ?_
              show G (T216.setTop (mkF m 185 #[i' p0, i' p1, i' p2, i' p3, r' b_104, r' b_117, .val .null, r' b_200, i' ul_210, i' 0, i' len_214] []))
              refine go _ _ (fun _ k => XS.aload X216.here hx rfl (hb hby at_185) rfl rfl (XS.iconst X216.here hx rfl (hb hby at_187) (XS.iload X216.here hx rfl (hb hby at_188) rfl (XS.aload X216.here hx rfl (hb hby at_190) rfl rfl (XS.aload X216.here hx rfl (hb hby at_192) rfl rfl (XS.aload X216.here hx rfl (hb hby at_194) rfl rfl k)))))) ?_
              obtain ⟨rv217, T217, L217, X217, q217, st217⟩ := own_st X216 hx hZ179 (y := (⟨"com/example/naslov/naslov/UriJoinAuthorityPinLaw", "at", "(Ljava/lang/String;IILjava/lang/String;Ljava/lang/String;Ljava/lang/String;)Z"⟩ : MethodName)) hown179 (ow hw 148 rfl) (ow hw 149 rfl) (ow hw 2 rfl) (ow hw 150 rfl) (by decide) (own_bkN (W := 0) (rmA10 l Z a0 hw z0 fm0 gl [] b_200 (1 : Int32) len_214 b_104 b_117 cs_105 cs_118 1 T191.heap n0 (Nat.le_trans Z0 Z208) F206 f202 f203 F209 F207 p107 F213 F212 p120 rfl (Eq.symm el214) (by decide)) hZ179 (ow hw 150 rfl) (ow hw 2 rfl) (by decide) (by decide)) e216 (g := (mkF m 196 #[i' p0, i' p1, i' p2, i' p3, r' b_104, r' b_117, .val .null, r' b_200, i' ul_210, i' 0, i' len_214] [.null, (.ref b_117), (.ref b_104), (.int len_214), (.int 1), (.ref b_200)])) rfl (by rw [hml]; rfl) (argsL := [(.ref b_200), (.int (1 : Int32)), (.int len_214), (.ref b_104), (.ref b_117), .null]) (rest := []) rfl (lenOf own_pd43 rfl) rfl (by show 2 * 0 + _ ≤ _; exact Nat.le_of_eq rfl) (hb hby at_196) (by decide) (by decide)
              obtain ⟨Nq217, e217, rfl⟩ := q217
              have N217 := Fr.app N216 Nq217
              refine go _ _ (st217) ?_
              show G (T217.setTop (mkF m 199 #[i' p0, i' p1, i' p2, i' p3, r' b_104, r' b_117, .val .null, r' b_200, i' ul_210, i' 0, i' len_214] [(.int 1)]))
              refine go _ _ (fun _ k => XS.ifNo X217.here hx rfl (hb hby at_199) rfl (by decide) k) ?_
              show G (T217.setTop (mkF m 202 #[i' p0, i' p1, i' p2, i' p3, r' b_104, r' b_117, .val .null, r' b_200, i' ul_210, i' 0, i' len_214] []))
              refine go _ _ (fun _ k => XS.aload X217.here hx rfl (hb hby at_202) rfl rfl (XS.iconst X217.here hx rfl (hb hby at_204) (XS.iload X217.here hx rfl (hb hby at_205) rfl (XS.aload X217.here hx rfl (hb hby at_207) rfl rfl (XS.aload X217.here hx rfl (hb hby at_209) rfl rfl (XS.aload X217.here hx rfl (hb hby at_211) rfl rfl k)))))) ?_
              obtain ⟨rv218, T218, L218, X218, q218, st218⟩ := own_st X217 hx hZ179 (y := (⟨"com/example/naslov/naslov/UriJoinAuthorityPinLaw", "at", "(Ljava/lang/String;IILjava/lang/String;Ljava/lang/String;Ljava/lang/String;)Z"⟩ : MethodName)) hown179 (ow hw 148 rfl) (ow hw 149 rfl) (ow hw 2 rfl) (ow hw 150 rfl) (by decide) (own_bkN (W := 0) (rmA10 l Z a0 hw z0 fm0 gl [] b_200 (2 : Int32) len_214 b_104 b_117 cs_105 cs_118 2 T191.heap n0 (Nat.le_trans Z0 Z208) F206 f202 f203 F209 F207 p107 F213 F212 p120 rfl (Eq.symm el214) (by decide)) hZ179 (ow hw 150 rfl) (ow hw 2 rfl) (by decide) (by decide)) e217 (g := (mkF m 213 #[i' p0, i' p1, i' p2, i' p3, r' b_104, r' b_117, .val .null, r' b_200, i' ul_210, i' 0, i' len_214] [.null, (.ref b_117), (.ref b_104), (.int len_214), (.int 2), (.ref b_200)])) rfl (by rw [hml]; rfl) (argsL := [(.ref b_200), (.int (2 : Int32)), (.int len_214), (.ref b_104), (.ref b_117), .null]) (rest := []) rfl (lenOf own_pd43 rfl) rfl (by show 2 * 0 + _ ≤ _; exact Nat.le_of_eq rfl) (hb hby at_213) (by decide) (by decide)
              obtain ⟨Nq218, e218, rfl⟩ := q218
              have N218 := Fr.app N217 Nq218
              refine go _ _ (st218) ?_
              show G (T218.setTop (mkF m 216 #[i' p0, i' p1, i' p2, i' p3, r' b_104, r' b_117, .val .null, r' b_200, i' ul_210, i' 0, i' len_214] [(.int 1)]))
              refine go _ _ (fun _ k => XS.ifNo X218.here hx rfl (hb hby at_216) rfl (by decide) k) ?_
              show G (T218.setTop (mkF m 219 #[i' p0, i' p1, i' p2, i' p3, r' b_104, r' b_117, .val .null, r' b_200, i' ul_210, i' 0, i' len_214] []))
              refine go _ _ (fun _ k => XS.aload X218.here hx rfl (hb hby at_219) rfl rfl (XS.iconst X218.here hx rfl (hb hby at_221) (XS.iload X218.here hx rfl (hb hby at_222) rfl (XS.aload X218.here hx rfl (hb hby at_224) rfl rfl (XS.aload X218.here hx rfl (hb hby at_226) rfl rfl (XS.aload X218.here hx rfl (hb hby at_228) rfl rfl k)))))) ?_
              obtain ⟨rv219, T219, L219, X219, q219, st219⟩ := own_st X218 hx hZ179 (y := (⟨"com/example/naslov/naslov/UriJoinAuthorityPinLaw", "at", "(Ljava/lang/String;IILjava/lang/String;Ljava/lang/String;Ljava/lang/String;)Z"⟩ : MethodName)) hown179 (ow hw 148 rfl) (ow hw 149 rfl) (ow hw 2 rfl) (ow hw 150 rfl) (by decide) (own_bkN (W := 0) (rmA10 l Z a0 hw z0 fm0 gl [] b_200 (3 : Int32) len_214 b_104 b_117 cs_105 cs_118 3 T191.heap n0 (Nat.le_trans Z0 Z208) F206 f202 f203 F209 F207 p107 F213 F212 p120 rfl (Eq.symm el214) (by decide)) hZ179 (ow hw 150 rfl) (ow hw 2 rfl) (by decide) (by decide)) e218 (g := (mkF m 230 #[i' p0, i' p1, i' p2, i' p3, r' b_104, r' b_117, .val .null, r' b_200, i' ul_210, i' 0, i' len_214] [.null, (.ref b_117), (.ref b_104), (.int len_214), (.int 3), (.ref b_200)])) rfl (by rw [hml]; rfl) (argsL := [(.ref b_200), (.int (3 : Int32)), (.int len_214), (.ref b_104), (.ref b_117), .null]) (rest := []) rfl (lenOf own_pd43 rfl) rfl (by show 2 * 0 + _ ≤ _; exact Nat.le_of_eq rfl) (hb hby at_230) (by decide) (by decide)
              obtain ⟨Nq219, e219, rfl⟩ := q219
              have N219 := Fr.app N218 Nq219
              refine go _ _ (st219) ?_
              show G (T219.setTop (mkF m 233 #[i' p0, i' p1, i' p2, i' p3, r' b_104, r' b_117, .val .null, r' b_200, i' ul_210, i' 0, i' len_214] [(.int 1)]))
              refine go _ _ (fun _ k => XS.ifNo X219.here hx rfl (hb hby at_233) rfl (by decide) k) ?_
              show G (T219.setTop (mkF m 236 #[i' p0, i' p1, i' p2, i' p3, r' b_104, r' b_117, .val .null, r' b_200, i' ul_210, i' 0, i' len_214] []))
              refine go _ _ (fun _ k => XS.aload X219.here hx rfl (hb hby at_236) rfl rfl (XS.iconst X219.here hx rfl (hb hby at_238) (XS.iload X219.here hx rfl (hb hby at_239) rfl (XS.aload X219.here hx rfl (hb hby at_241) rfl rfl (XS.aload X219.here hx rfl (hb hby at_243) rfl rfl (XS.aload X219.here hx rfl (hb hby at_245) rfl rfl k)))))) ?_
              obtain ⟨rv220, T220, L220, X220, q220, st220⟩ := own_st X219 hx hZ179 (y := (⟨"com/example/naslov/naslov/UriJoinAuthorityPinLaw", "at", "(Ljava/lang/String;IILjava/lang/String;Ljava/lang/String;Ljava/lang/String;)Z"⟩ : MethodName)) hown179 (ow hw 148 rfl) (ow hw 149 rfl) (ow hw 2 rfl) (ow hw 150 rfl) (by decide) (own_bkN (W := 0) (rmA10 l Z a0 hw z0 fm0 gl [] b_200 (4 : Int32) len_214 b_104 b_117 cs_105 cs_118 4 T191.heap n0 (Nat.le_trans Z0 Z208) F206 f202 f203 F209 F207 p107 F213 F212 p120 rfl (Eq.symm el214) (by decide)) hZ179 (ow hw 150 rfl) (ow hw 2 rfl) (by decide) (by decide)) e219 (g := (mkF m 247 #[i' p0, i' p1, i' p2, i' p3, r' b_104, r' b_117, .val .null, r' b_200, i' ul_210, i' 0, i' len_214] [.null, (.ref b_117), (.ref b_104), (.int len_214), (.int 4), (.ref b_200)])) rfl (by rw [hml]; rfl) (argsL := [(.ref b_200), (.int (4 : Int32)), (.int len_214), (.ref b_104), (.ref b_117), .null]) (rest := []) rfl (lenOf own_pd43 rfl) rfl (by show 2 * 0 + _ ≤ _; exact Nat.le_of_eq rfl) (hb hby at_247) (by decide) (by decide)
              obtain ⟨Nq220, e220, rfl⟩ := q220
              have N220 := Fr.app N219 Nq220
              refine go _ _ (st220) ?_
              show G (T220.setTop (mkF m 250 #[i' p0, i' p1, i' p2, i' p3, r' b_104, r' b_117, .val .null, r' b_200, i' ul_210, i' 0, i' len_214] [(.int 1)]))
              refine go _ _ (fun _ k => XS.ifNo X220.here hx rfl (hb hby at_250) rfl (by decide) k) ?_
              show G (T220.setTop (mkF m 253 #[i' p0, i' p1, i' p2, i' p3, r' b_104, r' b_117, .val .null, r' b_200, i' ul_210, i' 0, i' len_214] []))
              refine go _ _ (fun _ k => XS.aload X220.here hx rfl (hb hby at_253) rfl rfl (XS.iconst X220.here hx rfl (hb hby at_255) (XS.iload X220.here hx rfl (hb hby at_256) rfl (XS.aload X220.here hx rfl (hb hby at_258) rfl rfl (XS.aload X220.here hx rfl (hb hby at_260) rfl rfl (XS.aload X220.here hx rfl (hb hby at_262) rfl rfl k)))))) ?_
              obtain ⟨rv221, T221, L221, X221, q221, st221⟩ := own_st X220 hx hZ179 (y := (⟨"com/example/naslov/naslov/UriJoinAuthorityPinLaw", "at", "(Ljava/lang/String;IILjava/lang/String;Ljava/lang/String;Ljava/lang/String;)Z"⟩ : MethodName)) hown179 (ow hw 148 rfl) (ow hw 149 rfl) (ow hw 2 rfl) (ow hw 150 rfl) (by decide) (own_bkN (W := 0) (rmA10 l Z a0 hw z0 fm0 gl [] b_200 (5 : Int32) len_214 b_104 b_117 cs_105 cs_118 5 T191.heap n0 (Nat.le_trans Z0 Z208) F206 f202 f203 F209 F207 p107 F213 F212 p120 rfl (Eq.symm el214) (by decide)) hZ179 (ow hw 150 rfl) (ow hw 2 rfl) (by decide) (by decide)) e220 (g := (mkF m 264 #[i' p0, i' p1, i' p2, i' p3, r' b_104, r' b_117, .val .null, r' b_200, i' ul_210, i' 0, i' len_214] [.null, (.ref b_117), (.ref b_104), (.int len_214), (.int 5), (.ref b_200)])) rfl (by rw [hml]; rfl) (argsL := [(.ref b_200), (.int (5 : Int32)), (.int len_214), (.ref b_104), (.ref b_117), .null]) (rest := []) rfl (lenOf own_pd43 rfl) rfl (by show 2 * 0 + _ ≤ _; exact Nat.le_of_eq rfl) (hb hby at_264) (by decide) (by decide)
              obtain ⟨Nq221, e221, rfl⟩ := q221
              have N221 := Fr.app N220 Nq221
              refine go _ _ (st221) ?_
              show G (T221.setTop (mkF m 267 #[i' p0, i' p1, i' p2, i' p3, r' b_104, r' b_117, .val .null, r' b_200, i' ul_210, i' 0, i' len_214] [(.int 1)]))
              refine go _ _ (fun _ k => XS.ifNo X221.here hx rfl (hb hby at_267) rfl (by decide) k) ?_
              show G (T221.setTop (mkF m 270 #[i' p0, i' p1, i' p2, i' p3, r' b_104, r' b_117, .val .null, r' b_200, i' ul_210, i' 0, i' len_214] []))
              refine go _ _ (fun _ k => XS.aload X221.here hx rfl (hb hby at_270) rfl rfl (XS.bipush X221.here hx rfl (hb hby at_272) (XS.iload X221.here hx rfl (hb hby at_274) rfl (XS.aload X221.here hx rfl (hb hby at_276) rfl rfl (XS.aload X221.here hx rfl (hb hby at_278) rfl rfl (XS.aload X221.here hx rfl (hb hby at_280) rfl rfl k)))))) ?_
              obtain ⟨rv222, T222, L222, X222, q222, st222⟩ := own_st X221 hx hZ179 (y := (⟨"com/example/naslov/naslov/UriJoinAuthorityPinLaw", "at", "(Ljava/lang/String;IILjava/lang/String;Ljava/lang/String;Ljava/lang/String;)Z"⟩ : MethodName)) hown179 (ow hw 148 rfl) (ow hw 149 rfl) (ow hw 2 rfl) (ow hw 150 rfl) (by decide) (own_bkN (W := 0) (rmA10 l Z a0 hw z0 fm0 gl [] b_200 (6 : Int32) len_214 b_104 b_117 cs_105 cs_118 6 T191.heap n0 (Nat.le_trans Z0 Z208) F206 f202 f203 F209 F207 p107 F213 F212 p120 rfl (Eq.symm el214) (by decide)) hZ179 (ow hw 150 rfl) (ow hw 2 rfl) (by decide) (by decide)) e221 (g := (mkF m 282 #[i' p0, i' p1, i' p2, i' p3, r' b_104, r' b_117, .val .null, r' b_200, i' ul_210, i' 0, i' len_214] [.null, (.ref b_117), (.ref b_104), (.int len_214), (.int 6), (.ref b_200)])) rfl (by rw [hml]; rfl) (argsL := [(.ref b_200), (.int (6 : Int32)), (.int len_214), (.ref b_104), (.ref b_117), .null]) (rest := []) rfl (lenOf own_pd43 rfl) rfl (by show 2 * 0 + _ ≤ _; exact Nat.le_of_eq rfl) (hb hby at_282) (by decide) (by decide)
              obtain ⟨Nq222, e222, rfl⟩ := q222
              have N222 := Fr.app N221 Nq222
              refine go _ _ (st222) ?_
              show G (T222.setTop (mkF m 285 #[i' p0, i' p1, i' p2, i' p3, r' b_104, r' b_117, .val .null, r' b_200, i' ul_210, i' 0, i' len_214] [(.int 1)]))
              refine go _ _ (fun _ k => XS.ifNo X222.here hx rfl (hb hby at_285) rfl (by decide) k) ?_
              show G (T222.setTop (mkF m 288 #[i' p0, i' p1, i' p2, i' p3, r' b_104, r' b_117, .val .null, r' b_200, i' ul_210, i' 0, i' len_214] []))
              refine go _ _ (fun _ k => XS.aload X222.here hx rfl (hb hby at_288) rfl rfl (XS.bipush X222.here hx rfl (hb hby at_290) (XS.iload X222.here hx rfl (hb hby at_292) rfl (XS.aload X222.here hx rfl (hb hby at_294) rfl rfl (XS.aload X222.here hx rfl (hb hby at_296) rfl rfl (XS.aload X222.here hx rfl (hb hby at_298) rfl rfl k)))))) ?_
              obtain ⟨rv223, T223, L223, X223, q223, st223⟩ := own_st X222 hx hZ179 (y := (⟨"com/example/naslov/naslov/UriJoinAuthorityPinLaw", "at", "(Ljava/lang/String;IILjava/lang/String;Ljava/lang/String;Ljava/lang/String;)Z"⟩ : MethodName)) hown179 (ow hw 148 rfl) (ow hw 149 rfl) (ow hw 2 rfl) (ow hw 150 rfl) (by decide) (own_bkN (W := 0) (rmA10 l Z a0 hw z0 fm0 gl [] b_200 (7 : Int32) len_214 b_104 b_117 cs_105 cs_118 7 T191.heap n0 (Nat.le_trans Z0 Z208) F206 f202 f203 F209 F207 p107 F213 F212 p120 rfl (Eq.symm el214) (by decide)) hZ179 (ow hw 150 rfl) (ow hw 2 rfl) (by decide) (by decide)) e222 (g := (mkF m 300 #[i' p0, i' p1, i' p2, i' p3, r' b_104, r' b_117, .val .null, r' b_200, i' ul_210, i' 0, i' len_214] [.null, (.ref b_117), (.ref b_104), (.int len_214), (.int 7), (.ref b_200)])) rfl (by rw [hml]; rfl) (argsL := [(.ref b_200), (.int (7 : Int32)), (.int len_214), (.ref b_104), (.ref b_117), .null]) (rest := []) rfl (lenOf own_pd43 rfl) rfl (by show 2 * 0 + _ ≤ _; exact Nat.le_of_eq rfl) (hb hby at_300) (by decide) (by decide)
              obtain ⟨Nq223, e223, rfl⟩ := q223
              have N223 := Fr.app N222 Nq223
              refine go _ _ (st223) ?_
              show G (T223.setTop (mkF m 303 #[i' p0, i' p1, i' p2, i' p3, r' b_104, r' b_117, .val .null, r' b_200, i' ul_210, i' 0, i' len_214] [(.int 1)]))
              refine go _ _ (fun _ k => XS.ifNo X223.here hx rfl (hb hby at_303) rfl (by decide) k) ?_
              show G (T223.setTop (mkF m 306 #[i' p0, i' p1, i' p2, i' p3, r' b_104, r' b_117, .val .null, r' b_200, i' ul_210, i' 0, i' len_214] []))
              refine go _ _ (fun _ k => XS.iconst X223.here hx rfl (hb hby at_306) k) ?_
              show G (T223.setTop (mkF m 307 #[i' p0, i' p1, i' p2, i' p3, r' b_104, r' b_117, .val .null, r' b_200, i' ul_210, i' 0, i' len_214] [(.int 1)]))
              refine go _ _ (fun _ k => XS.goto X223.here hx rfl (pc0 := 307) (pc' := 311) rfl (hb hby at_307) (by decide) (by decide) k) ?_
              show G (T223.setTop (mkF m 311 #[i' p0, i' p1, i' p2, i' p3, r' b_104, r' b_117, .val .null, r' b_200, i' ul_210, i' 0, i' len_214] [(.int 1)]))
              have K224 : Keep h0 T111.heap [] := K112.trans Kp111 all0
              have K225 : Keep h0 T179.heap [] := K224.trans Kp179 all0
              have K226 : Keep h0 T191.heap [] := K225.trans Kp191 all0
              have C227 : CHr Z own_EL s.vm h0 T179.vm T179.heap := C183.trans C179
              have C228 : CHr Z own_EL s.vm h0 T179.vm T191.heap := C227.trans (CHr.keep K205 sf0 C227.1)
              have Z229 : T179.heap.size ≤ T191.heap.size := Kp191.1
              refine fin T223 _ _ _ (some (.int (1 : Int32))) T179.vm _ X223 hZ179 hS179 (by rw [e223]; exact (Nat.le_trans (Nat.le_refl _) Z229)) (by rw [e223]; exact C228) (fun q => nomatch q) (by decide) (by decide) (by rw [e223]; exact ⟨N223, K226, rfl⟩) _ (own_retN X223 hx (z := (1 : Int32)) (t := .boolean) hret (by simp) (hb hby at_311))
            · exact absurd p187 (by decide)
      · refine go _ _ (fun _ k => XS.ifNo X102.here hx rfl (hb hby at_27) rfl ((if0 _ _).trans (feq hc27_110).1) k) ?_
        show G (T102.setTop (mkF m 30 #[i' p0, i' p1, i' p2, i' p3, r' b_104, u', u', u', u', u', u'] []))
        refine go _ _ (fun _ k => XS.iconst X102.here hx rfl (hb hby at_30) k) ?_
        show G (T102.setTop (mkF m 31 #[i' p0, i' p1, i' p2, i' p3, r' b_104, u', u', u', u', u', u'] [(.int 1)]))
        refine go _ _ (fun _ k => XS.goto X102.here hx rfl (pc0 := 31) (pc' := 35) rfl (hb hby at_31) (by decide) (by decide) k) ?_
        show G (T102.setTop (mkF m 35 #[i' p0, i' p1, i' p2, i' p3, r' b_104, u', u', u', u', u', u'] [(.int 1)]))
        refine go _ _ (fun _ k => XS.iloadN X102.here hx rfl (hb hby at_35) rfl (XS.iconst X102.here hx rfl (hb hby at_36) (XS.iushr X102.here hx rfl (hb hby at_37) rfl (XS.iconst X102.here hx rfl (hb hby at_38) (XS.iand X102.here hx rfl (hb hby at_39) rfl (XS.iconst X102.here hx rfl (hb hby at_40) k)))))) ?_
        show G (T102.setTop (mkF m 41 #[i' p0, i' p1, i' p2, i' p3, r' b_104, u', u', u', u', u', u'] [(.int 3), (.int (((p3.toUInt32 >>> ((5 : Int32) &&& 31).toUInt32).toInt32) &&& (3 : Int32))), (.int 1)]))
        refine go _ _ (fun _ k => iremM X102 hx rfl (hb hby at_41) rfl (by decide) k) ?_
        show G (T102.setTop (mkF m 42 #[i' p0, i' p1, i' p2, i' p3, r' b_104, u', u', u', u', u', u'] [(.int ((((p3.toUInt32 >>> ((5 : Int32) &&& 31).toUInt32).toInt32) &&& (3 : Int32)) % (3 : Int32))), (.int 1)]))
        refine go _ _ (fun _ k => XS.iloadN X102.here hx rfl (hb hby at_42) rfl k) ?_
        have K231 : Keep h0 T102.heap [] := (Keep.refl h0 []).trans Kp102 all0
        have F232 : Old Z n0 T102.heap := (Xo.keep K231 all0)
        have Z233 : h0.size ≤ T102.heap.size := Kp102.1
        have C234 : CHr Z own_EL s.vm h0 T102.vm T102.heap := C0.trans C102
        obtain ⟨rv230, T230, L230, X230, q230, hZ230, hown230, hS230, C230, st230⟩ := own_stW X102 hx hZ102 (y := (⟨"com/example/naslov/naslov/UriJoinAuthorityPinLaw", "part", "(ZII)Ljava/lang/String;"⟩ : MethodName)) hown102 (ow hw 0 rfl) (ow hw 1 rfl) (ow hw 2 rfl) (ow hw 3 rfl) (by decide) (own_bkH (W := 0) (rm0 l Z a0 hw z0 fm0 gl [] (1 : Int32) ((((p3.toUInt32 >>> ((5 : Int32) &&& 31).toUInt32).toInt32) &&& (3 : Int32)) % (3 : Int32)) p1 T102.heap n0 (Nat.le_trans Z0 Z233) F232) hZ102 (ow hw 3 rfl) (ow hw 2 rfl) (by decide) (by decide) (own_hEL hw) C234.1) rfl hS102 (Nat.le_refl _) (g := (mkF m 43 #[i' p0, i' p1, i' p2, i' p3, r' b_104, u', u', u', u', u', u'] [(.int p1), (.int ((((p3.toUInt32 >>> ((5 : Int32) &&& 31).toUInt32).toInt32) &&& (3 : Int32)) % (3 : Int32))), (.int 1)])) rfl (by rw [hml]; rfl) (argsL := [(.int (1 : Int32)), (.int ((((p3.toUInt32 >>> ((5 : Int32) &&& 31).toUInt32).toInt32) &&& (3 : Int32)) % (3 : Int32))), (.int p1)]) (rest := []) rfl (lenOf own_pd41 rfl) rfl (by show 2 * 0 + _ ≤ _; exact Nat.le_of_eq rfl) (hb hby at_43) (by decide) (by decide)
        obtain ⟨Nq230, Kp230, q230⟩ := q230
        have N230 := Fr.app N102 Nq230
        rcases q230 with ⟨rfl, p235⟩ | ⟨b_236, cs_237, rfl, p238, p239, f240, f241⟩
        · refine go _ _ (st230) ?_
          show G (T230.setTop (mkF m 46 #[i' p0, i' p1, i' p2, i' p3, r' b_104, u', u', u', u', u', u'] [.null]))
          refine go _ _ (fun _ k => XS.astore X230.here hx rfl (hb hby at_46) rfl rfl (l' := #[i' p0, i' p1, i' p2, i' p3, r' b_104, .val .null, u', u', u', u', u']) rfl (XS.iloadN X230.here hx rfl (hb hby at_48) rfl (XS.iconst X230.here hx rfl (hb hby at_49) (XS.iand X230.here hx rfl (hb hby at_50) rfl k)))) ?_
          show G (T230.setTop (mkF m 51 #[i' p0, i' p1, i' p2, i' p3, r' b_104, .val .null, u', u', u', u', u'] [(.int (p3 &&& (4 : Int32)))]))
          by_cases hc51_242 : (p3 &&& (4 : Int32)) = (0 : Int32)
          · refine go _ _ (fun _ k => XS.ifYes X230.here hx rfl (pc0 := 51) (pc' := 58) rfl (hb hby at_51) rfl ((if0 _ _).trans (teq hc51_242).1) (by decide) (by decide) k) ?_
            show G (T230.setTop (mkF m 58 #[i' p0, i' p1, i' p2, i' p3, r' b_104, .val .null, u', u', u', u', u'] []))
            refine go _ _ (fun _ k => XS.iconst X230.here hx rfl (hb hby at_58) (XS.iloadN X230.here hx rfl (hb hby at_59) rfl (XS.bipush X230.here hx rfl (hb hby at_60) (XS.iushr X230.here hx rfl (hb hby at_62) rfl (XS.iconst X230.here hx rfl (hb hby at_63) (XS.iand X230.here hx rfl (hb hby at_64) rfl k)))))) ?_
            show G (T230.setTop (mkF m 65 #[i' p0, i' p1, i' p2, i' p3, r' b_104, .val .null, u', u', u', u', u'] [(.int (((p3.toUInt32 >>> ((7 : Int32) &&& 31).toUInt32).toInt32) &&& (3 : Int32))), (.int 0)]))
            refine go _ _ (fun _ k => XS.iconst X230.here hx rfl (hb hby at_65) k) ?_
            show G (T230.setTop (mkF m 66 #[i' p0, i' p1, i' p2, i' p3, r' b_104, .val .null, u', u', u', u', u'] [(.int 3), (.int (((p3.toUInt32 >>> ((7 : Int32) &&& 31).toUInt32).toInt32) &&& (3 : Int32))), (.int 0)]))
            refine go _ _ (fun _ k => iremM X230 hx rfl (hb hby at_66) rfl (by decide) k) ?_
            show G (T230.setTop (mkF m 67 #[i' p0, i' p1, i' p2, i' p3, r' b_104, .val .null, u', u', u', u', u'] [(.int ((((p3.toUInt32 >>> ((7 : Int32) &&& 31).toUInt32).toInt32) &&& (3 : Int32)) % (3 : Int32))), (.int 0)]))
            refine go _ _ (fun _ k => XS.iloadN X230.here hx rfl (hb hby at_67) rfl k) ?_
            have K244 : Keep T102.heap T230.heap [] := (Keep.refl T102.heap []).trans Kp230 all0
            have F245 : Old Z n0 T230.heap := (F232.keep K244 all0)
            have Z246 : h0.size ≤ T230.heap.size := Nat.le_trans Z233 Kp230.1
            have C247 : CHr Z own_EL s.vm h0 T230.vm T230.heap := C234.trans C230
            obtain ⟨rv243, T243, L243, X243, q243, hZ243, hown243, hS243, C243, st243⟩ := own_stW X230 hx hZ230 (y := (⟨"com/example/naslov/naslov/UriJoinAuthorityPinLaw", "part", "(ZII)Ljava/lang/String;"⟩ : MethodName)) hown230 (ow hw 0 rfl) (ow hw 1 rfl) (ow hw 2 rfl) (ow hw 3 rfl) (by decide) (own_bkH (W := 0) (rm0 l Z a0 hw z0 fm0 gl [] (0 : Int32) ((((p3.toUInt32 >>> ((7 : Int32) &&& 31).toUInt32).toInt32) &&& (3 : Int32)) % (3 : Int32)) p2 T230.heap n0 (Nat.le_trans Z0 Z246) F245) hZ230 (ow hw 3 rfl) (ow hw 2 rfl) (by decide) (by decide) (own_hEL hw) C247.1) rfl hS230 (Nat.le_refl _) (g := (mkF m 68 #[i' p0, i' p1, i' p2, i' p3, r' b_104, .val .null, u', u', u', u', u'] [(.int p2), (.int ((((p3.toUInt32 >>> ((7 : Int32) &&& 31).toUInt32).toInt32) &&& (3 : Int32)) % (3 : Int32))), (.int 0)])) rfl (by rw [hml]; rfl) (argsL := [(.int (0 : Int32)), (.int ((((p3.toUInt32 >>> ((7 : Int32) &&& 31).toUInt32).toInt32) &&& (3 : Int32)) % (3 : Int32))), (.int p2)]) (rest := []) rfl (lenOf own_pd41 rfl) rfl (by show 2 * 0 + _ ≤ _; exact Nat.le_of_eq rfl) (hb hby at_68) (by decide) (by decide)
            obtain ⟨Nq243, Kp243, q243⟩ := q243
            have N243 := Fr.app N230 Nq243
            rcases q243 with ⟨rfl, p248⟩ | ⟨b_249, cs_250, rfl, p251, p252, f253, f254⟩
            · exact absurd p106 p248
            · refine go _ _ (st243) ?_
              show G (T243.setTop (mkF m 71 #[i' p0, i' p1, i' p2, i' p3, r' b_104, .val .null, u', u', u', u', u'] [(.ref b_249)]))
              refine go _ _ (fun _ k => XS.astore X243.here hx rfl (hb hby at_71) rfl rfl (l' := #[i' p0, i' p1, i' p2, i' p3, r' b_104, .val .null, r' b_249, u', u', u', u']) rfl (XS.aload X243.here hx rfl (hb hby at_73) rfl rfl (XS.aload X243.here hx rfl (hb hby at_75) rfl rfl (XS.aload X243.here hx rfl (hb hby at_77) rfl rfl k)))) ?_
              have Z256 : h0.size ≤ T243.heap.size := Nat.le_trans Z246 Kp243.1
              obtain ⟨rv255, T255, L255, X255, q255, st255⟩ := own_st X243 hx hZ243 (y := (⟨"com/example/naslov/naslov/Uri", "joinAuthority", "(Ljava/lang/String;Ljava/lang/String;Ljava/lang/String;)Ljava/lang/String;"⟩ : MethodName)) hown243 (ow hw 12 rfl) (ow hw 13 rfl) (ow hw 14 rfl) (ow hw 15 rfl) (by decide) (own_bkN (W := 0) (rmJn l Z a0 hw z0 fm0 gl [] (.ref b_104) (.ref b_249) T243.heap n0 (Nat.le_trans Z0 Z256) rfl rfl) hZ243 (ow hw 15 rfl) (ow hw 14 rfl) (by decide) (by decide)) rfl (g := (mkF m 79 #[i' p0, i' p1, i' p2, i' p3, r' b_104, .val .null, r' b_249, u', u', u', u'] [(.ref b_249), .null, (.ref b_104)])) rfl (by rw [hml]; rfl) (argsL := [(.ref b_104), .null, (.ref b_249)]) (rest := []) rfl (lenOf own_pd42 rfl) rfl (by show 2 * 0 + _ ≤ _; exact Nat.le_of_eq rfl) (hb hby at_79) (by decide) (by decide)
              obtain ⟨Nq255, e255, rfl⟩ := q255
              have N255 := Fr.app N243 Nq255
              refine go _ _ (st255) ?_
              show G (T255.setTop (mkF m 82 #[i' p0, i' p1, i' p2, i' p3, r' b_104, .val .null, r' b_249, u', u', u', u'] [.null]))
              refine go _ _ (fun _ k => XS.astore X255.here hx rfl (hb hby at_82) rfl rfl (l' := #[i' p0, i' p1, i' p2, i' p3, r' b_104, .val .null, r' b_249, .val .null, u', u', u']) rfl (XS.aload X255.here hx rfl (hb hby at_84) rfl rfl k)) ?_
              show G (T255.setTop (mkF m 86 #[i' p0, i' p1, i' p2, i' p3, r' b_104, .val .null, r' b_249, .val .null, u', u', u'] [.null]))
              refine go _ _ (fun _ k => XS.ifnonnullNo X255.here hx rfl (hb hby at_86) rfl k) ?_
              show G (T255.setTop (mkF m 89 #[i' p0, i' p1, i' p2, i' p3, r' b_104, .val .null, r' b_249, .val .null, u', u', u'] []))
              refine go _ _ (fun _ k => XS.aload X255.here hx rfl (hb hby at_89) rfl rfl k) ?_
              show G (T255.setTop (mkF m 91 #[i' p0, i' p1, i' p2, i' p3, r' b_104, .val .null, r' b_249, .val .null, u', u', u'] [.null]))
              refine go _ _ (fun _ k => XS.ifnonnullNo X255.here hx rfl (hb hby at_91) rfl k) ?_
              show G (T255.setTop (mkF m 94 #[i' p0, i' p1, i' p2, i' p3, r' b_104, .val .null, r' b_249, .val .null, u', u', u'] []))
              refine go _ _ (fun _ k => XS.iconst X255.here hx rfl (hb hby at_94) k) ?_
              show G (T255.setTop (mkF m 95 #[i' p0, i' p1, i' p2, i' p3, r' b_104, .val .null, r' b_249, .val .null, u', u', u'] [(.int 1)]))
              refine go _ _ (fun _ k => XS.goto X255.here hx rfl (pc0 := 95) (pc' := 99) rfl (hb hby at_95) (by decide) (by decide) k) ?_
              show G (T255.setTop (mkF m 99 #[i' p0, i' p1, i' p2, i' p3, r' b_104, .val .null, r' b_249, .val .null, u', u', u'] [(.int 1)]))
              have K257 : Keep h0 T230.heap [] := K231.trans Kp230 all0
              have K258 : Keep h0 T243.heap [] := K257.trans Kp243 all0
              have C259 : CHr Z own_EL s.vm h0 T243.vm T243.heap := C247.trans C243
              refine fin T255 _ _ _ (some (.int (1 : Int32))) T243.vm _ X255 hZ243 hS243 (by rw [e255]; exact (Nat.le_refl _)) (by rw [e255]; exact C259) (fun q => nomatch q) (by decide) (by decide) (by rw [e255]; exact ⟨N255, K258, rfl⟩) _ (own_retN X255 hx (z := (1 : Int32)) (t := .boolean) hret (by simp) (hb hby at_99))
          · refine go _ _ (fun _ k => XS.ifNo X230.here hx rfl (hb hby at_51) rfl ((if0 _ _).trans (feq hc51_242).1) k) ?_
            show G (T230.setTop (mkF m 54 #[i' p0, i' p1, i' p2, i' p3, r' b_104, .val .null, u', u', u', u', u'] []))
            refine go _ _ (fun _ k => XS.iconst X230.here hx rfl (hb hby at_54) k) ?_
            show G (T230.setTop (mkF m 55 #[i' p0, i' p1, i' p2, i' p3, r' b_104, .val .null, u', u', u', u', u'] [(.int 1)]))
            refine go _ _ (fun _ k => XS.goto X230.here hx rfl (pc0 := 55) (pc' := 59) rfl (hb hby at_55) (by decide) (by decide) k) ?_
            show G (T230.setTop (mkF m 59 #[i' p0, i' p1, i' p2, i' p3, r' b_104, .val .null, u', u', u', u', u'] [(.int 1)]))
            refine go _ _ (fun _ k => XS.iloadN X230.here hx rfl (hb hby at_59) rfl (XS.bipush X230.here hx rfl (hb hby at_60) (XS.iushr X230.here hx rfl (hb hby at_62) rfl (XS.iconst X230.here hx rfl (hb hby at_63) (XS.iand X230.here hx rfl (hb hby at_64) rfl (XS.iconst X230.here hx rfl (hb hby at_65) k)))))) ?_
            show G (T230.setTop (mkF m 66 #[i' p0, i' p1, i' p2, i' p3, r' b_104, .val .null, u', u', u', u', u'] [(.int 3), (.int (((p3.toUInt32 >>> ((7 : Int32) &&& 31).toUInt32).toInt32) &&& (3 : Int32))), (.int 1)]))
            refine go _ _ (fun _ k => iremM X230 hx rfl (hb hby at_66) rfl (by decide) k) ?_
            show G (T230.setTop (mkF m 67 #[i' p0, i' p1, i' p2, i' p3, r' b_104, .val .null, u', u', u', u', u'] [(.int ((((p3.toUInt32 >>> ((7 : Int32) &&& 31).toUInt32).toInt32) &&& (3 : Int32)) % (3 : Int32))), (.int 1)]))
            refine go _ _ (fun _ k => XS.iloadN X230.here hx rfl (hb hby at_67) rfl k) ?_
            have K261 : Keep T102.heap T230.heap [] := (Keep.refl T102.heap []).trans Kp230 all0
            have F262 : Old Z n0 T230.heap := (F232.keep K261 all0)
            have Z263 : h0.size ≤ T230.heap.size := Nat.le_trans Z233 Kp230.1
            have C264 : CHr Z own_EL s.vm h0 T230.vm T230.heap := C234.trans C230
            obtain ⟨rv260, T260, L260, X260, q260, hZ260, hown260, hS260, C260, st260⟩ := own_stW X230 hx hZ230 (y := (⟨"com/example/naslov/naslov/UriJoinAuthorityPinLaw", "part", "(ZII)Ljava/lang/String;"⟩ : MethodName)) hown230 (ow hw 0 rfl) (ow hw 1 rfl) (ow hw 2 rfl) (ow hw 3 rfl) (by decide) (own_bkH (W := 0) (rm0 l Z a0 hw z0 fm0 gl [] (1 : Int32) ((((p3.toUInt32 >>> ((7 : Int32) &&& 31).toUInt32).toInt32) &&& (3 : Int32)) % (3 : Int32)) p2 T230.heap n0 (Nat.le_trans Z0 Z263) F262) hZ230 (ow hw 3 rfl) (ow hw 2 rfl) (by decide) (by decide) (own_hEL hw) C264.1) rfl hS230 (Nat.le_refl _) (g := (mkF m 68 #[i' p0, i' p1, i' p2, i' p3, r' b_104, .val .null, u', u', u', u', u'] [(.int p2), (.int ((((p3.toUInt32 >>> ((7 : Int32) &&& 31).toUInt32).toInt32) &&& (3 : Int32)) % (3 : Int32))), (.int 1)])) rfl (by rw [hml]; rfl) (argsL := [(.int (1 : Int32)), (.int ((((p3.toUInt32 >>> ((7 : Int32) &&& 31).toUInt32).toInt32) &&& (3 : Int32)) % (3 : Int32))), (.int p2)]) (rest := []) rfl (lenOf own_pd41 rfl) rfl (by show 2 * 0 + _ ≤ _; exact Nat.le_of_eq rfl) (hb hby at_68) (by decide) (by decide)
            obtain ⟨Nq260, Kp260, q260⟩ := q260
            have N260 := Fr.app N230 Nq260
            rcases q260 with ⟨rfl, p265⟩ | ⟨b_266, cs_267, rfl, p268, p269, f270, f271⟩
            · refine go _ _ (st260) ?_
              show G (T260.setTop (mkF m 71 #[i' p0, i' p1, i' p2, i' p3, r' b_104, .val .null, u', u', u', u', u'] [.null]))
              refine go _ _ (fun _ k => XS.astore X260.here hx rfl (hb hby at_71) rfl rfl (l' := #[i' p0, i' p1, i' p2, i' p3, r' b_104, .val .null, .val .null, u', u', u', u']) rfl (XS.aload X260.here hx rfl (hb hby at_73) rfl rfl (XS.aload X260.here hx rfl (hb hby at_75) rfl rfl (XS.aload X260.here hx rfl (hb hby at_77) rfl rfl k)))) ?_
              have Z273 : h0.size ≤ T260.heap.size := Nat.le_trans Z263 Kp260.1
              obtain ⟨rv272, T272, L272, X272, q272, st272⟩ := own_st X260 hx hZ260 (y := (⟨"com/example/naslov/naslov/Uri", "joinAuthority", "(Ljava/lang/String;Ljava/lang/String;Ljava/lang/String;)Ljava/lang/String;"⟩ : MethodName)) hown260 (ow hw 12 rfl) (ow hw 13 rfl) (ow hw 14 rfl) (ow hw 15 rfl) (by decide) (own_bkN (W := 0) (rmJn l Z a0 hw z0 fm0 gl [] (.ref b_104) .null T260.heap n0 (Nat.le_trans Z0 Z273) rfl rfl) hZ260 (ow hw 15 rfl) (ow hw 14 rfl) (by decide) (by decide)) rfl (g := (mkF m 79 #[i' p0, i' p1, i' p2, i' p3, r' b_104, .val .null, .val .null, u', u', u', u'] [.null, .null, (.ref b_104)])) rfl (by rw [hml]; rfl) (argsL := [(.ref b_104), .null, .null]) (rest := []) rfl (lenOf own_pd42 rfl) rfl (by show 2 * 0 + _ ≤ _; exact Nat.le_of_eq rfl) (hb hby at_79) (by decide) (by decide)
              obtain ⟨Nq272, e272, rfl⟩ := q272
              have N272 := Fr.app N260 Nq272
              refine go _ _ (st272) ?_
              show G (T272.setTop (mkF m 82 #[i' p0, i' p1, i' p2, i' p3, r' b_104, .val .null, .val .null, u', u', u', u'] [.null]))
              refine go _ _ (fun _ k => XS.astore X272.here hx rfl (hb hby at_82) rfl rfl (l' := #[i' p0, i' p1, i' p2, i' p3, r' b_104, .val .null, .val .null, .val .null, u', u', u']) rfl (XS.aload X272.here hx rfl (hb hby at_84) rfl rfl k)) ?_
              show G (T272.setTop (mkF m 86 #[i' p0, i' p1, i' p2, i' p3, r' b_104, .val .null, .val .null, .val .null, u', u', u'] [.null]))
              refine go _ _ (fun _ k => XS.ifnonnullNo X272.here hx rfl (hb hby at_86) rfl k) ?_
              show G (T272.setTop (mkF m 89 #[i' p0, i' p1, i' p2, i' p3, r' b_104, .val .null, .val .null, .val .null, u', u', u'] []))
              refine go _ _ (fun _ k => XS.aload X272.here hx rfl (hb hby at_89) rfl rfl k) ?_
              show G (T272.setTop (mkF m 91 #[i' p0, i' p1, i' p2, i' p3, r' b_104, .val .null, .val .null, .val .null, u', u', u'] [.null]))
              refine go _ _ (fun _ k => XS.ifnonnullNo X272.here hx rfl (hb hby at_91) rfl k) ?_
              show G (T272.setTop (mkF m 94 #[i' p0, i' p1, i' p2, i' p3, r' b_104, .val .null, .val .null, .val .null, u', u', u'] []))
              refine go _ _ (fun _ k => XS.iconst X272.here hx rfl (hb hby at_94) k) ?_
              show G (T272.setTop (mkF m 95 #[i' p0, i' p1, i' p2, i' p3, r' b_104, .val .null, .val .null, .val .null, u', u', u'] [(.int 1)]))
              refine go _ _ (fun _ k => XS.goto X272.here hx rfl (pc0 := 95) (pc' := 99) rfl (hb hby at_95) (by decide) (by decide) k) ?_
              show G (T272.setTop (mkF m 99 #[i' p0, i' p1, i' p2, i' p3, r' b_104, .val .null, .val .null, .val .null, u', u', u'] [(.int 1)]))
              have K274 : Keep h0 T230.heap [] := K231.trans Kp230 all0
              have K275 : Keep h0 T260.heap [] := K274.trans Kp260 all0
              have C276 : CHr Z own_EL s.vm h0 T260.vm T260.heap := C264.trans C260
              refine fin T272 _ _ _ (some (.int (1 : Int32))) T260.vm _ X272 hZ260 hS260 (by rw [e272]; exact (Nat.le_refl _)) (by rw [e272]; exact C276) (fun q => nomatch q) (by decide) (by decide) (by rw [e272]; exact ⟨N272, K275, rfl⟩) _ (own_retN X272 hx (z := (1 : Int32)) (t := .boolean) hret (by simp) (hb hby at_99))
            · exact absurd p268 p235
        · exact absurd p238 (by decide)
  · refine go _ _ (fun _ k => XS.ifNo X0.here hx rfl (hb hby at_3) rfl ((if0 _ _).trans (feq hc3_101).1) k) ?_
    show G (s₁.setTop (mkF m 6 #[i' p0, i' p1, i' p2, i' p3, u', u', u', u', u', u', u'] []))
    refine go _ _ (fun _ k => XS.iconst X0.here hx rfl (hb hby at_6) k) ?_
    show G (s₁.setTop (mkF m 7 #[i' p0, i' p1, i' p2, i' p3, u', u', u', u', u', u', u'] [(.int 1)]))
    refine go _ _ (fun _ k => XS.goto X0.here hx rfl (pc0 := 7) (pc' := 11) rfl (hb hby at_7) (by decide) (by decide) k) ?_
    show G (s₁.setTop (mkF m 11 #[i' p0, i' p1, i' p2, i' p3, u', u', u', u', u', u', u'] [(.int 1)]))
    refine go _ _ (fun _ k => XS.iloadN X0.here hx rfl (hb hby at_11) rfl (XS.iconst X0.here hx rfl (hb hby at_12) (XS.iushr X0.here hx rfl (hb hby at_13) rfl (XS.iconst X0.here hx rfl (hb hby at_14) (XS.iand X0.here hx rfl (hb hby at_15) rfl (XS.iconst X0.here hx rfl (hb hby at_16) k)))))) ?_
    show G (s₁.setTop (mkF m 17 #[i' p0, i' p1, i' p2, i' p3, u', u', u', u', u', u', u'] [(.int 3), (.int (((p3.toUInt32 >>> ((3 : Int32) &&& 31).toUInt32).toInt32) &&& (3 : Int32))), (.int 1)]))
    refine go _ _ (fun _ k => iremM X0 hx rfl (hb hby at_17) rfl (by decide) k) ?_
    show G (s₁.setTop (mkF m 18 #[i' p0, i' p1, i' p2, i' p3, u', u', u', u', u', u', u'] [(.int ((((p3.toUInt32 >>> ((3 : Int32) &&& 31).toUInt32).toInt32) &&& (3 : Int32)) % (3 : Int32))), (.int 1)]))
    refine go _ _ (fun _ k => XS.iloadN X0.here hx rfl (hb hby at_18) rfl k) ?_
    obtain ⟨rv277, T277, L277, X277, q277, hZ277, hown277, hS277, C277, st277⟩ := own_stW X0 hx hZ (y := (⟨"com/example/naslov/naslov/UriJoinAuthorityPinLaw", "part", "(ZII)Ljava/lang/String;"⟩ : MethodName)) hown (ow hw 0 rfl) (ow hw 1 rfl) (ow hw 2 rfl) (ow hw 3 rfl) (by decide) (own_bkH (W := 0) (rm0 l Z a0 hw z0 fm0 gl [] (1 : Int32) ((((p3.toUInt32 >>> ((3 : Int32) &&& 31).toUInt32).toInt32) &&& (3 : Int32)) % (3 : Int32)) p0 h0 n0 Z0 Xo) hZ (ow hw 3 rfl) (ow hw 2 rfl) (by decide) (by decide) (own_hEL hw) C0.1) e0 hS (Nat.le_refl _) (g := (mkF m 19 #[i' p0, i' p1, i' p2, i' p3, u', u', u', u', u', u', u'] [(.int p0), (.int ((((p3.toUInt32 >>> ((3 : Int32) &&& 31).toUInt32).toInt32) &&& (3 : Int32)) % (3 : Int32))), (.int 1)])) rfl (by rw [hml]; rfl) (argsL := [(.int (1 : Int32)), (.int ((((p3.toUInt32 >>> ((3 : Int32) &&& 31).toUInt32).toInt32) &&& (3 : Int32)) % (3 : Int32))), (.int p0)]) (rest := []) rfl (lenOf own_pd41 rfl) rfl (by show 2 * 0 + _ ≤ _; exact Nat.le_of_eq rfl) (hb hby at_19) (by decide) (by decide)
    obtain ⟨Nq277, Kp277, q277⟩ := q277
    have N277 := Fr.app N0 Nq277
    rcases q277 with ⟨rfl, p278⟩ | ⟨b_279, cs_280, rfl, p281, p282, f283, f284⟩
    · refine go _ _ (st277) ?_
      show G (T277.setTop (mkF m 22 #[i' p0, i' p1, i' p2, i' p3, u', u', u', u', u', u', u'] [.null]))
      refine go _ _ (fun _ k => XS.astore X277.here hx rfl (hb hby at_22) rfl rfl (l' := #[i' p0, i' p1, i' p2, i' p3, .val .null, u', u', u', u', u', u']) rfl (XS.iloadN X277.here hx rfl (hb hby at_24) rfl (XS.iconst X277.here hx rfl (hb hby at_25) (XS.iand X277.here hx rfl (hb hby at_26) rfl k)))) ?_
      show G (T277.setTop (mkF m 27 #[i' p0, i' p1, i' p2, i' p3, .val .null, u', u', u', u', u', u'] [(.int (p3 &&& (2 : Int32)))]))
      by_cases hc27_285 : (p3 &&& (2 : Int32)) = (0 : Int32)
      · refine go _ _ (fun _ k => XS.ifYes X277.here hx rfl (pc0 := 27) (pc' := 34) rfl (hb hby at_27) rfl ((if0 _ _).trans (teq hc27_285).1) (by decide) (by decide) k) ?_
        show G (T277.setTop (mkF m 34 #[i' p0, i' p1, i' p2, i' p3, .val .null, u', u', u', u', u', u'] []))
        refine go _ _ (fun _ k => XS.iconst X277.here hx rfl (hb hby at_34) (XS.iloadN X277.here hx rfl (hb hby at_35) rfl (XS.iconst X277.here hx rfl (hb hby at_36) (XS.iushr X277.here hx rfl (hb hby at_37) rfl (XS.iconst X277.here hx rfl (hb hby at_38) (XS.iand X277.here hx rfl (hb hby at_39) rfl k)))))) ?_
        show G (T277.setTop (mkF m 40 #[i' p0, i' p1, i' p2, i' p3, .val .null, u', u', u', u', u', u'] [(.int (((p3.toUInt32 >>> ((5 : Int32) &&& 31).toUInt32).toInt32) &&& (3 : Int32))), (.int 0)]))
        refine go _ _ (fun _ k => XS.iconst X277.here hx rfl (hb hby at_40) k) ?_
        show G (T277.setTop (mkF m 41 #[i' p0, i' p1, i' p2, i' p3, .val .null, u', u', u', u', u', u'] [(.int 3), (.int (((p3.toUInt32 >>> ((5 : Int32) &&& 31).toUInt32).toInt32) &&& (3 : Int32))), (.int 0)]))
        refine go _ _ (fun _ k => iremM X277 hx rfl (hb hby at_41) rfl (by decide) k) ?_
        show G (T277.setTop (mkF m 42 #[i' p0, i' p1, i' p2, i' p3, .val .null, u', u', u', u', u', u'] [(.int ((((p3.toUInt32 >>> ((5 : Int32) &&& 31).toUInt32).toInt32) &&& (3 : Int32)) % (3 : Int32))), (.int 0)]))
        refine go _ _ (fun _ k => XS.iloadN X277.here hx rfl (hb hby at_42) rfl k) ?_
        have K287 : Keep h0 T277.heap [] := (Keep.refl h0 []).trans Kp277 all0
        have F288 : Old Z n0 T277.heap := (Xo.keep K287 all0)
        have Z289 : h0.size ≤ T277.heap.size := Kp277.1
        have C290 : CHr Z own_EL s.vm h0 T277.vm T277.heap := C0.trans C277
        obtain ⟨rv286, T286, L286, X286, q286, hZ286, hown286, hS286, C286, st286⟩ := own_stW X277 hx hZ277 (y := (⟨"com/example/naslov/naslov/UriJoinAuthorityPinLaw", "part", "(ZII)Ljava/lang/String;"⟩ : MethodName)) hown277 (ow hw 0 rfl) (ow hw 1 rfl) (ow hw 2 rfl) (ow hw 3 rfl) (by decide) (own_bkH (W := 0) (rm0 l Z a0 hw z0 fm0 gl [] (0 : Int32) ((((p3.toUInt32 >>> ((5 : Int32) &&& 31).toUInt32).toInt32) &&& (3 : Int32)) % (3 : Int32)) p1 T277.heap n0 (Nat.le_trans Z0 Z289) F288) hZ277 (ow hw 3 rfl) (ow hw 2 rfl) (by decide) (by decide) (own_hEL hw) C290.1) rfl hS277 (Nat.le_refl _) (g := (mkF m 43 #[i' p0, i' p1, i' p2, i' p3, .val .null, u', u', u', u', u', u'] [(.int p1), (.int ((((p3.toUInt32 >>> ((5 : Int32) &&& 31).toUInt32).toInt32) &&& (3 : Int32)) % (3 : Int32))), (.int 0)])) rfl (by rw [hml]; rfl) (argsL := [(.int (0 : Int32)), (.int ((((p3.toUInt32 >>> ((5 : Int32) &&& 31).toUInt32).toInt32) &&& (3 : Int32)) % (3 : Int32))), (.int p1)]) (rest := []) rfl (lenOf own_pd41 rfl) rfl (by show 2 * 0 + _ ≤ _; exact Nat.le_of_eq rfl) (hb hby at_43) (by decide) (by decide)
        obtain ⟨Nq286, Kp286, q286⟩ := q286
        have N286 := Fr.app N277 Nq286
        rcases q286 with ⟨rfl, p291⟩ | ⟨b_292, cs_293, rfl, p294, p295, f296, f297⟩
        · exact absurd rfl p291
        · refine go _ _ (st286) ?_
          show G (T286.setTop (mkF m 46 #[i' p0, i' p1, i' p2, i' p3, .val .null, u', u', u', u', u', u'] [(.ref b_292)]))
          refine go _ _ (fun _ k => XS.astore X286.here hx rfl (hb hby at_46) rfl rfl (l' := #[i' p0, i' p1, i' p2, i' p3, .val .null, r' b_292, u', u', u', u', u']) rfl (XS.iloadN X286.here hx rfl (hb hby at_48) rfl (XS.iconst X286.here hx rfl (hb hby at_49) (XS.iand X286.here hx rfl (hb hby at_50) rfl k)))) ?_
          show G (T286.setTop (mkF m 51 #[i' p0, i' p1, i' p2, i' p3, .val .null, r' b_292, u', u', u', u', u'] [(.int (p3 &&& (4 : Int32)))]))
          by_cases hc51_298 : (p3 &&& (4 : Int32)) = (0 : Int32)
          · refine go _ _ (fun _ k => XS.ifYes X286.here hx rfl (pc0 := 51) (pc' := 58) rfl (hb hby at_51) rfl ((if0 _ _).trans (teq hc51_298).1) (by decide) (by decide) k) ?_
            show G (T286.setTop (mkF m 58 #[i' p0, i' p1, i' p2, i' p3, .val .null, r' b_292, u', u', u', u', u'] []))
            refine go _ _ (fun _ k => XS.iconst X286.here hx rfl (hb hby at_58) (XS.iloadN X286.here hx rfl (hb hby at_59) rfl (XS.bipush X286.here hx rfl (hb hby at_60) (XS.iushr X286.here hx rfl (hb hby at_62) rfl (XS.iconst X286.here hx rfl (hb hby at_63) (XS.iand X286.here hx rfl (hb hby at_64) rfl k)))))) ?_
            show G (T286.setTop (mkF m 65 #[i' p0, i' p1, i' p2, i' p3, .val .null, r' b_292, u', u', u', u', u'] [(.int (((p3.toUInt32 >>> ((7 : Int32) &&& 31).toUInt32).toInt32) &&& (3 : Int32))), (.int 0)]))
            refine go _ _ (fun _ k => XS.iconst X286.here hx rfl (hb hby at_65) k) ?_
            show G (T286.setTop (mkF m 66 #[i' p0, i' p1, i' p2, i' p3, .val .null, r' b_292, u', u', u', u', u'] [(.int 3), (.int (((p3.toUInt32 >>> ((7 : Int32) &&& 31).toUInt32).toInt32) &&& (3 : Int32))), (.int 0)]))
            refine go _ _ (fun _ k => iremM X286 hx rfl (hb hby at_66) rfl (by decide) k) ?_
            show G (T286.setTop (mkF m 67 #[i' p0, i' p1, i' p2, i' p3, .val .null, r' b_292, u', u', u', u', u'] [(.int ((((p3.toUInt32 >>> ((7 : Int32) &&& 31).toUInt32).toInt32) &&& (3 : Int32)) % (3 : Int32))), (.int 0)]))
            refine go _ _ (fun _ k => XS.iloadN X286.here hx rfl (hb hby at_67) rfl k) ?_
            have K300 : Keep T277.heap T286.heap [] := (Keep.refl T277.heap []).trans Kp286 all0
            have F301 : Old Z n0 T286.heap := (F288.keep K300 all0)
            have Z302 : h0.size ≤ T286.heap.size := Nat.le_trans Z289 Kp286.1
            have C303 : CHr Z own_EL s.vm h0 T286.vm T286.heap := C290.trans C286
            obtain ⟨rv299, T299, L299, X299, q299, hZ299, hown299, hS299, C299, st299⟩ := own_stW X286 hx hZ286 (y := (⟨"com/example/naslov/naslov/UriJoinAuthorityPinLaw", "part", "(ZII)Ljava/lang/String;"⟩ : MethodName)) hown286 (ow hw 0 rfl) (ow hw 1 rfl) (ow hw 2 rfl) (ow hw 3 rfl) (by decide) (own_bkH (W := 0) (rm0 l Z a0 hw z0 fm0 gl [] (0 : Int32) ((((p3.toUInt32 >>> ((7 : Int32) &&& 31).toUInt32).toInt32) &&& (3 : Int32)) % (3 : Int32)) p2 T286.heap n0 (Nat.le_trans Z0 Z302) F301) hZ286 (ow hw 3 rfl) (ow hw 2 rfl) (by decide) (by decide) (own_hEL hw) C303.1) rfl hS286 (Nat.le_refl _) (g := (mkF m 68 #[i' p0, i' p1, i' p2, i' p3, .val .null, r' b_292, u', u', u', u', u'] [(.int p2), (.int ((((p3.toUInt32 >>> ((7 : Int32) &&& 31).toUInt32).toInt32) &&& (3 : Int32)) % (3 : Int32))), (.int 0)])) rfl (by rw [hml]; rfl) (argsL := [(.int (0 : Int32)), (.int ((((p3.toUInt32 >>> ((7 : Int32) &&& 31).toUInt32).toInt32) &&& (3 : Int32)) % (3 : Int32))), (.int p2)]) (rest := []) rfl (lenOf own_pd41 rfl) rfl (by show 2 * 0 + _ ≤ _; exact Nat.le_of_eq rfl) (hb hby at_68) (by decide) (by decide)
            obtain ⟨Nq299, Kp299, q299⟩ := q299
            have N299 := Fr.app N286 Nq299
            rcases q299 with ⟨rfl, p304⟩ | ⟨b_305, cs_306, rfl, p307, p308, f309, f310⟩
            · exact absurd p294 p304
            · refine go _ _ (st299) ?_
              show G (T299.setTop (mkF m 71 #[i' p0, i' p1, i' p2, i' p3, .val .null, r' b_292, u', u', u', u', u'] [(.ref b_305)]))
              refine go _ _ (fun _ k => XS.astore X299.here hx rfl (hb hby at_71) rfl rfl (l' := #[i' p0, i' p1, i' p2, i' p3, .val .null, r' b_292, r' b_305, u', u', u', u']) rfl (XS.aload X299.here hx rfl (hb hby at_73) rfl rfl (XS.aload X299.here hx rfl (hb hby at_75) rfl rfl (XS.aload X299.here hx rfl (hb hby at_77) rfl rfl k)))) ?_
              have K312 : Keep T286.heap T299.heap [] := (Keep.refl T286.heap []).trans Kp299 all0
              have F313 : Old Z n0 T299.heap := (F301.keep K312 all0)
              have F314 : Exa Z T299.heap b_292 "java/lang/String" := (f296.keep K312)
              have F315 : own_S Z T299.heap b_292 cs_293 := (own_S_keep f297 K312)
              have Z316 : h0.size ≤ T299.heap.size := Nat.le_trans Z302 Kp299.1
              obtain ⟨rv311, T311, L311, X311, q311, st311⟩ := own_st X299 hx hZ299 (y := (⟨"com/example/naslov/naslov/Uri", "joinAuthority", "(Ljava/lang/String;Ljava/lang/String;Ljava/lang/String;)Ljava/lang/String;"⟩ : MethodName)) hown299 (ow hw 12 rfl) (ow hw 13 rfl) (ow hw 14 rfl) (ow hw 15 rfl) (by decide) (own_bkN (W := 0) (rmJ01 l Z a0 hw z0 fm0 gl [] b_292 b_305 cs_293 cs_306 T299.heap n0 (Nat.le_trans Z0 Z316) F313 F314 F315 p295 f309 f310 p308) hZ299 (ow hw 15 rfl) (ow hw 14 rfl) (by decide) (by decide)) rfl (g := (mkF m 79 #[i' p0, i' p1, i' p2, i' p3, .val .null, r' b_292, r' b_305, u', u', u', u'] [(.ref b_305), (.ref b_292), .null])) rfl (by rw [hml]; rfl) (argsL := [.null, (.ref b_292), (.ref b_305)]) (rest := []) rfl (lenOf own_pd42 rfl) rfl (by show 2 * 0 + _ ≤ _; exact Nat.le_of_eq rfl) (hb hby at_79) (by decide) (by decide)
              obtain ⟨Nq311, Kp311, ⟨b_317, rfl, z318, f319, f320⟩⟩ := q311
              have N311 := Fr.app N299 Nq311
              refine go _ _ (st311) ?_
              show G (T311.setTop (mkF m 82 #[i' p0, i' p1, i' p2, i' p3, .val .null, r' b_292, r' b_305, u', u', u', u'] [(.ref b_317)]))
              refine go _ _ (fun _ k => XS.astore X311.here hx rfl (hb hby at_82) rfl rfl (l' := #[i' p0, i' p1, i' p2, i' p3, .val .null, r' b_292, r' b_305, r' b_317, u', u', u']) rfl (XS.aload X311.here hx rfl (hb hby at_84) rfl rfl k)) ?_
              show G (T311.setTop (mkF m 86 #[i' p0, i' p1, i' p2, i' p3, .val .null, r' b_292, r' b_305, r' b_317, u', u', u'] [(.ref b_292)]))
              refine go _ _ (fun _ k => XS.ifnonnullYes X311.here hx rfl (pc0 := 86) (pc' := 100) rfl (hb hby at_86) rfl (by decide) (by decide) k) ?_
              show G (T311.setTop (mkF m 100 #[i' p0, i' p1, i' p2, i' p3, .val .null, r' b_292, r' b_305, r' b_317, u', u', u'] []))
              refine go _ _ (fun _ k => XS.aload X311.here hx rfl (hb hby at_100) rfl rfl k) ?_
              show G (T311.setTop (mkF m 102 #[i' p0, i' p1, i' p2, i' p3, .val .null, r' b_292, r' b_305, r' b_317, u', u', u'] [(.ref b_317)]))
              refine go _ _ (fun _ k => XS.ifnonnullYes X311.here hx rfl (pc0 := 102) (pc' := 107) rfl (hb hby at_102) rfl (by decide) (by decide) k) ?_
              show G (T311.setTop (mkF m 107 #[i' p0, i' p1, i' p2, i' p3, .val .null, r' b_292, r' b_305, r' b_317, u', u', u'] []))
              refine go _ _ (fun _ k => XS.aload X311.here hx rfl (hb hby at_107) rfl rfl k) ?_
              show G (T311.setTop (mkF m 109 #[i' p0, i' p1, i' p2, i' p3, .val .null, r' b_292, r' b_305, r' b_317, u', u', u'] [.null]))
              refine go _ _ (fun _ k => XS.ifnonnullNo X311.here hx rfl (hb hby at_109) rfl k) ?_
              show G (T311.setTop (mkF m 112 #[i' p0, i' p1, i' p2, i' p3, .val .null, r' b_292, r' b_305, r' b_317, u', u', u'] []))
              refine go _ _ (fun _ k => XS.iconst X311.here hx rfl (hb hby at_112) k) ?_
              show G (T311.setTop (mkF m 113 #[i' p0, i' p1, i' p2, i' p3, .val .null, r' b_292, r' b_305, r' b_317, u', u', u'] [(.int 0)]))
              refine go _ _ (fun _ k => XS.goto X311.here hx rfl (pc0 := 113) (pc' := 123) rfl (hb hby at_113) (by decide) (by decide) k) ?_
              show G (T311.setTop (mkF m 123 #[i' p0, i' p1, i' p2, i' p3, .val .null, r' b_292, r' b_305, r' b_317, u', u', u'] [(.int 0)]))
              refine go _ _ (fun _ k => XS.istore X311.here hx rfl (hb hby at_123) rfl (l' := #[i' p0, i' p1, i' p2, i' p3, .val .null, r' b_292, r' b_305, r' b_317, i' 0, u', u']) rfl (XS.aload X311.here hx rfl (hb hby at_125) rfl rfl k)) ?_
              show G (T311.setTop (mkF m 127 #[i' p0, i' p1, i' p2, i' p3, .val .null, r' b_292, r' b_305, r' b_317, i' 0, u', u'] [(.ref b_305)]))
              refine go _ _ (fun _ k => XS.ifnonnullYes X311.here hx rfl (pc0 := 127) (pc' := 134) rfl (hb hby at_127) rfl (by decide) (by decide) k) ?_
              show G (T311.setTop (mkF m 134 #[i' p0, i' p1, i' p2, i' p3, .val .null, r' b_292, r' b_305, r' b_317, i' 0, u', u'] []))
              refine go _ _ (fun _ k => XS.aload X311.here hx rfl (hb hby at_134) rfl rfl k) ?_
              have K322 : Keep T299.heap T311.heap [] := (Keep.refl T299.heap []).trans Kp311 all0
              have F323 : Old Z n0 T311.heap := (F313.keep K322 all0)
              have F324 : own_S Z T311.heap b_305 cs_306 := (own_S_keep f310 K322)
              have Z325 : h0.size ≤ T311.heap.size := Nat.le_trans Z316 Kp311.1
              have F326 : Exa Z T311.heap b_305 "java/lang/String" := (f309.keep K322)
              obtain ⟨rv321, T321, L321, X321, q321, st321⟩ := own_vi X311 hx hZ299 (y := (⟨"java/lang/String", "length", "()I"⟩ : MethodName)) (z := (⟨"java/lang/String", "length", "()I"⟩ : MethodName)) hown299 (ow hw 147 rfl) (ow hw 47 rfl) (ow hw 49 rfl) (ow hw 48 rfl) (Or.inl rfl) (by decide) (own_bkN (W := 0) (rm7 l Z a0 hw z0 fm0 gl [] b_305 cs_306 T311.heap n0 (Nat.le_trans Z0 Z325) F323 F324) hZ299 (ow hw 50 rfl) (ow hw 5 rfl) (by decide) (by decide)) rfl F326 (g := (mkF m 136 #[i' p0, i' p1, i' p2, i' p3, .val .null, r' b_292, r' b_305, r' b_317, i' 0, u', u'] [(.ref b_305)])) rfl (by rw [hml]; rfl) (argsL := []) (rest := []) rfl (lenOf own_pd20 rfl) rfl (by show 2 * 0 + _ ≤ _; exact Nat.le_of_eq rfl) (hb hby at_136) (by decide) (by decide)
              obtain ⟨Nq321, e321, rfl⟩ := q321
              have N321 := Fr.app N311 Nq321
              refine go _ _ (st321) ?_
              show G (T321.setTop (mkF m 139 #[i' p0, i' p1, i' p2, i' p3, .val .null, r' b_292, r' b_305, r' b_317, i' 0, u', u'] [(.int (own_n cs_306))]))
              refine go _ _ (fun _ k => XS.iconst X321.here hx rfl (hb hby at_139) (XS.iadd X321.here hx rfl (hb hby at_140) rfl k)) ?_
              show G (T321.setTop (mkF m 141 #[i' p0, i' p1, i' p2, i' p3, .val .null, r' b_292, r' b_305, r' b_317, i' 0, u', u'] [(.int ((own_n cs_306) + (1 : Int32)))]))
              obtain ⟨pl_327, ea327⟩ : ∃ z : Int32, ((own_n cs_306) + (1 : Int32)) = z := ⟨_, rfl⟩
              rw [ea327]
              show G (T321.setTop (mkF m 141 #[i' p0, i' p1, i' p2, i' p3, .val .null, r' b_292, r' b_305, r' b_317, i' 0, u', u'] [(.int pl_327)]))
              refine go _ _ (fun _ k => XS.istore X321.here hx rfl (hb hby at_141) rfl (l' := #[i' p0, i' p1, i' p2, i' p3, .val .null, r' b_292, r' b_305, r' b_317, i' 0, i' pl_327, u']) rfl (XS.iload X321.here hx rfl (hb hby at_143) rfl (XS.aload X321.here hx rfl (hb hby at_145) rfl rfl k))) ?_
              have F329 : own_S Z T311.heap b_292 cs_293 := (own_S_keep F315 K322)
              have F330 : Exa Z T311.heap b_292 "java/lang/String" := (F314.keep K322)
              obtain ⟨rv328, T328, L328, X328, q328, st328⟩ := own_vi X321 hx hZ299 (y := (⟨"java/lang/String", "length", "()I"⟩ : MethodName)) (z := (⟨"java/lang/String", "length", "()I"⟩ : MethodName)) hown299 (ow hw 147 rfl) (ow hw 47 rfl) (ow hw 49 rfl) (ow hw 48 rfl) (Or.inl rfl) (by decide) (own_bkN (W := 1) (rm7 l Z a0 hw z0 fm0 gl [] b_292 cs_293 T311.heap n0 (Nat.le_trans Z0 Z325) F323 F329) hZ299 (ow hw 50 rfl) (ow hw 5 rfl) (by decide) (by decide)) e321 F330 (g := (mkF m 147 #[i' p0, i' p1, i' p2, i' p3, .val .null, r' b_292, r' b_305, r' b_317, i' 0, i' pl_327, u'] [(.ref b_292), (.int 0)])) rfl (by rw [hml]; rfl) (argsL := []) (rest := [(.int (0 : Int32))]) rfl (lenOf own_pd20 rfl) rfl (by show 2 * 0 + _ ≤ _; exact Nat.le_of_eq rfl) (hb hby at_147) (by decide) (by decide)
              obtain ⟨Nq328, e328, rfl⟩ := q328
              have N328 := Fr.app N321 Nq328
              refine go _ _ (st328) ?_
              show G (T328.setTop (mkF m 150 #[i' p0, i' p1, i' p2, i' p3, .val .null, r' b_292, r' b_305, r' b_317, i' 0, i' pl_327, u'] [(.int (own_n cs_293)), (.int 0)]))
              refine go _ _ (fun _ k => XS.iadd X328.here hx rfl (hb hby at_150) rfl (XS.iload X328.here hx rfl (hb hby at_151) rfl (XS.iadd X328.here hx rfl (hb hby at_153) rfl k))) ?_
              show G (T328.setTop (mkF m 154 #[i' p0, i' p1, i' p2, i' p3, .val .null, r' b_292, r' b_305, r' b_317, i' 0, i' pl_327, u'] [(.int (((0 : Int32) + (own_n cs_293)) + pl_327))]))
              obtain ⟨len_331, el331⟩ : ∃ z : Int32, own_n (cs_293 ++ (58 : Int32) :: cs_306) = z := ⟨_, rfl⟩
              have hl331 : (((0 : Int32) + (own_n cs_293)) + pl_327) = len_331 := by rw [← el331, ← ea327]; exact own_len01 cs_293 cs_306
              rw [hl331]
              show G (T328.setTop (mkF m 154 #[i' p0, i' p1, i' p2, i' p3, .val .null, r' b_292, r' b_305, r' b_317, i' 0, i' pl_327, u'] [(.int len_331)]))
              refine go _ _ (fun _ k => XS.istore X328.here hx rfl (hb hby at_154) rfl (l' := #[i' p0, i' p1, i' p2, i' p3, .val .null, r' b_292, r' b_305, r' b_317, i' 0, i' pl_327, i' len_331]) rfl (XS.aload X328.here hx rfl (hb hby at_156) rfl rfl k)) ?_
              obtain ⟨rv332, T332, L332, X332, q332, st332⟩ := own_vi X328 hx hZ299 (y := (⟨"java/lang/String", "length", "()I"⟩ : MethodName)) (z := (⟨"java/lang/String", "length", "()I"⟩ : MethodName)) hown299 (ow hw 147 rfl) (ow hw 47 rfl) (ow hw 49 rfl) (ow hw 48 rfl) (Or.inl rfl) (by decide) (own_bkN (W := 0) (rm7 l Z a0 hw z0 fm0 gl [] b_317 (cs_293 ++ (58 : Int32) :: cs_306) T311.heap n0 (Nat.le_trans Z0 Z325) F323 f320) hZ299 (ow hw 50 rfl) (ow hw 5 rfl) (by decide) (by decide)) e328 f319 (g := (mkF m 158 #[i' p0, i' p1, i' p2, i' p3, .val .null, r' b_292, r' b_305, r' b_317, i' 0, i' pl_327, i' len_331] [(.ref b_317)])) rfl (by rw [hml]; rfl) (argsL := []) (rest := []) rfl (lenOf own_pd20 rfl) rfl (by show 2 * 0 + _ ≤ _; exact Nat.le_of_eq rfl) (hb hby at_158) (by decide) (by decide)
              obtain ⟨Nq332, e332, rfl⟩ := q332
              have N332 := Fr.app N328 Nq332
              refine go _ _ (st332) ?_
              show G (T332.setTop (mkF m 161 #[i' p0, i' p1, i' p2, i' p3, .val .null, r' b_292, r' b_305, r' b_317, i' 0, i' pl_327, i' len_331] [(.int (own_n (cs_293 ++ (58 : Int32) :: cs_306)))]))
              refine go _ _ (fun _ k => XS.iload X332.here hx rfl (hb hby at_161) rfl k) ?_
              show G (T332.setTop (mkF m 163 #[i' p0, i' p1, i' p2, i' p3, .val .null, r' b_292, r' b_305, r' b_317, i' 0, i' pl_327, i' len_331] [(.int len_331), (.int (own_n (cs_293 ++ (58 : Int32) :: cs_306)))]))
              refine go _ _ (fun _ k => XS.icmpYes X332.here hx rfl (pc0 := 163) (pc' := 168) rfl (hb hby at_163) rfl (teq el331).1 (by decide) (by decide) k) ?_
              show G (T332.setTop (mkF m 168 #[i' p0, i' p1, i' p2, i' p3, .val .null, r' b_292, r' b_305, r' b_317, i' 0, i' pl_327, i' len_331] []))
              refine go _ _ (fun _ k => XS.aload X332.here hx rfl (hb hby at_168) rfl rfl (XS.iconst X332.here hx rfl (hb hby at_170) (XS.iload X332.here hx rfl (hb hby at_171) rfl (XS.aload X332.here hx rfl (hb hby at_173) rfl rfl (XS.aload X332.here hx rfl (hb hby at_175) rfl rfl (XS.aload X332.here hx rfl (hb hby at_177) rfl rfl k)))))) ?_
              obtain ⟨rv333, T333, L333, X333, q333, st333⟩ := own_st X332 hx hZ299 (y := (⟨"com/example/naslov/naslov/UriJoinAuthorityPinLaw", "at", "(Ljava/lang/String;IILjava/lang/String;Ljava/lang/String;Ljava/lang/String;)Z"⟩ : MethodName)) hown299 (ow hw 148 rfl) (ow hw 149 rfl) (ow hw 2 rfl) (ow hw 150 rfl) (by decide) (own_bkN (W := 0) (rmA01 l Z a0 hw z0 fm0 gl [] b_317 (0 : Int32) len_331 b_292 b_305 cs_293 cs_306 0 T311.heap n0 (Nat.le_trans Z0 Z325) F323 f319 f320 F330 F329 p295 F326 F324 p308 rfl (Eq.symm el331) (by decide)) hZ299 (ow hw 150 rfl) (ow hw 2 rfl) (by decide) (by decide)) e332 (g := (mkF m 179 #[i' p0, i' p1, i' p2, i' p3, .val .null, r' b_292, r' b_305, r' b_317, i' 0, i' pl_327, i' len_331] [(.ref b_305), (.ref b_292), .null, (.int len_331), (.int 0), (.ref b_317)])) rfl (by rw [hml]; rfl) (argsL := [(.ref b_317), (.int (0 : Int32)), (.int len_331), .null, (.ref b_292), (.ref b_305)]) (rest := []) rfl (lenOf own_pd43 rfl) rfl (by show 2 * 0 + _ ≤ _; exact Nat.le_of_eq rfl) (hb hby at_179) (by decide) (by decide)
              obtain ⟨Nq333, e333, rfl⟩ := q333
              have N333 := Fr.app N332 Nq333
              refine go _ _ (st333) ?_
              show G (T333.setTop (mkF m 182 #[i' p0, i' p1, i' p2, i' p3, .val .null, r' b_292, r' b_305, r' b_317, i' 0, i' pl_327, i' len_331] [(.int 1)]))
              refine go _ _ (fun _ k => XS.ifNo X333.here hx rfl (hb hby at_182) rfl (by decide) k) ?_
              show G (T333.setTop (mkF m 185 #[i' p0, i' p1, i' p2, i' p3, .val .null, r' b_292, r' b_305, r' b_317, i' 0, i' pl_327, i' len_331] []))
              refine go _ _ (fun _ k => XS.aload X333.here hx rfl (hb hby at_185) rfl rfl (XS.iconst X333.here hx rfl (hb hby at_187) (XS.iload X333.here hx rfl (hb hby at_188) rfl (XS.aload X333.here hx rfl (hb hby at_190) rfl rfl (XS.aload X333.here hx rfl (hb hby at_192) rfl rfl (XS.aload X333.here hx rfl (hb hby at_194) rfl rfl k)))))) ?_
              obtain ⟨rv334, T334, L334, X334, q334, st334⟩ := own_st X333 hx hZ299 (y := (⟨"com/example/naslov/naslov/UriJoinAuthorityPinLaw", "at", "(Ljava/lang/String;IILjava/lang/String;Ljava/lang/String;Ljava/lang/String;)Z"⟩ : MethodName)) hown299 (ow hw 148 rfl) (ow hw 149 rfl) (ow hw 2 rfl) (ow hw 150 rfl) (by decide) (own_bkN (W := 0) (rmA01 l Z a0 hw z0 fm0 gl [] b_317 (1 : Int32) len_331 b_292 b_305 cs_293 cs_306 1 T311.heap n0 (Nat.le_trans Z0 Z325) F323 f319 f320 F330 F329 p295 F326 F324 p308 rfl (Eq.symm el331) (by decide)) hZ299 (ow hw 150 rfl) (ow hw 2 rfl) (by decide) (by decide)) e333 (g := (mkF m 196 #[i' p0, i' p1, i' p2, i' p3, .val .null, r' b_292, r' b_305, r' b_317, i' 0, i' pl_327, i' len_331] [(.ref b_305), (.ref b_292), .null, (.int len_331), (.int 1), (.ref b_317)])) rfl (by rw [hml]; rfl) (argsL := [(.ref b_317), (.int (1 : Int32)), (.int len_331), .null, (.ref b_292), (.ref b_305)]) (rest := []) rfl (lenOf own_pd43 rfl) rfl (by show 2 * 0 + _ ≤ _; exact Nat.le_of_eq rfl) (hb hby at_196) (by decide) (by decide)
              obtain ⟨Nq334, e334, rfl⟩ := q334
              have N334 := Fr.app N333 Nq334
              refine go _ _ (st334) ?_
              show G (T334.setTop (mkF m 199 #[i' p0, i' p1, i' p2, i' p3, .val .null, r' b_292, r' b_305, r' b_317, i' 0, i' pl_327, i' len_331] [(.int 1)]))
              refine go _ _ (fun _ k => XS.ifNo X334.here hx rfl (hb hby at_199) rfl (by decide) k) ?_
              show G (T334.setTop (mkF m 202 #[i' p0, i' p1, i' p2, i' p3, .val .null, r' b_292, r' b_305, r' b_317, i' 0, i' pl_327, i' len_331] []))
              refine go _ _ (fun _ k => XS.aload X334.here hx rfl (hb hby at_202) rfl rfl (XS.iconst X334.here hx rfl (hb hby at_204) (XS.iload X334.here hx rfl (hb hby at_205) rfl (XS.aload X334.here hx rfl (hb hby at_207) rfl rfl (XS.aload X334.here hx rfl (hb hby at_209) rfl rfl (XS.aload X334.here hx rfl (hb hby at_211) rfl rfl k)))))) ?_
              obtain ⟨rv335, T335, L335, X335, q335, st335⟩ := own_st X334 hx hZ299 (y := (⟨"com/example/naslov/naslov/UriJoinAuthorityPinLaw", "at", "(Ljava/lang/String;IILjava/lang/String;Ljava/lang/String;Ljava/lang/String;)Z"⟩ : MethodName)) hown299 (ow hw 148 rfl) (ow hw 149 rfl) (ow hw 2 rfl) (ow hw 150 rfl) (by decide) (own_bkN (W := 0) (rmA01 l Z a0 hw z0 fm0 gl [] b_317 (2 : Int32) len_331 b_292 b_305 cs_293 cs_306 2 T311.heap n0 (Nat.le_trans Z0 Z325) F323 f319 f320 F330 F329 p295 F326 F324 p308 rfl (Eq.symm el331) (by decide)) hZ299 (ow hw 150 rfl) (ow hw 2 rfl) (by decide) (by decide)) e334 (g := (mkF m 213 #[i' p0, i' p1, i' p2, i' p3, .val .null, r' b_292, r' b_305, r' b_317, i' 0, i' pl_327, i' len_331] [(.ref b_305), (.ref b_292), .null, (.int len_331), (.int 2), (.ref b_317)])) rfl (by rw [hml]; rfl) (argsL := [(.ref b_317), (.int (2 : Int32)), (.int len_331), .null, (.ref b_292), (.ref b_305)]) (rest := []) rfl (lenOf own_pd43 rfl) rfl (by show 2 * 0 + _ ≤ _; exact Nat.le_of_eq rfl) (hb hby at_213) (by decide) (by decide)
              obtain ⟨Nq335, e335, rfl⟩ := q335
              have N335 := Fr.app N334 Nq335
              refine go _ _ (st335) ?_
              show G (T335.setTop (mkF m 216 #[i' p0, i' p1, i' p2, i' p3, .val .null, r' b_292, r' b_305, r' b_317, i' 0, i' pl_327, i' len_331] [(.int 1)]))
              refine go _ _ (fun _ k => XS.ifNo X335.here hx rfl (hb hby at_216) rfl (by decide) k) ?_
              show G (T335.setTop (mkF m 219 #[i' p0, i' p1, i' p2, i' p3, .val .null, r' b_292, r' b_305, r' b_317, i' 0, i' pl_327, i' len_331] []))
              refine go _ _ (fun _ k => XS.aload X335.here hx rfl (hb hby at_219) rfl rfl (XS.iconst X335.here hx rfl (hb hby at_221) (XS.iload X335.here hx rfl (hb hby at_222) rfl (XS.aload X335.here hx rfl (hb hby at_224) rfl rfl (XS.aload X335.here hx rfl (hb hby at_226) rfl rfl (XS.aload X335.here hx rfl (hb hby at_228) rfl rfl k)))))) ?_
              obtain ⟨rv336, T336, L336, X336, q336, st336⟩ := own_st X335 hx hZ299 (y := (⟨"com/example/naslov/naslov/UriJoinAuthorityPinLaw", "at", "(Ljava/lang/String;IILjava/lang/String;Ljava/lang/String;Ljava/lang/String;)Z"⟩ : MethodName)) hown299 (ow hw 148 rfl) (ow hw 149 rfl) (ow hw 2 rfl) (ow hw 150 rfl) (by decide) (own_bkN (W := 0) (rmA01 l Z a0 hw z0 fm0 gl [] b_317 (3 : Int32) len_331 b_292 b_305 cs_293 cs_306 3 T311.heap n0 (Nat.le_trans Z0 Z325) F323 f319 f320 F330 F329 p295 F326 F324 p308 rfl (Eq.symm el331) (by decide)) hZ299 (ow hw 150 rfl) (ow hw 2 rfl) (by decide) (by decide)) e335 (g := (mkF m 230 #[i' p0, i' p1, i' p2, i' p3, .val .null, r' b_292, r' b_305, r' b_317, i' 0, i' pl_327, i' len_331] [(.ref b_305), (.ref b_292), .null, (.int len_331), (.int 3), (.ref b_317)])) rfl (by rw [hml]; rfl) (argsL := [(.ref b_317), (.int (3 : Int32)), (.int len_331), .null, (.ref b_292), (.ref b_305)]) (rest := []) rfl (lenOf own_pd43 rfl) rfl (by show 2 * 0 + _ ≤ _; exact Nat.le_of_eq rfl) (hb hby at_230) (by decide) (by decide)
              obtain ⟨Nq336, e336, rfl⟩ := q336
              have N336 := Fr.app N335 Nq336
              refine go _ _ (st336) ?_
              show G (T336.setTop (mkF m 233 #[i' p0, i' p1, i' p2, i' p3, .val .null, r' b_292, r' b_305, r' b_317, i' 0, i' pl_327, i' len_331] [(.int 1)]))
              refine go _ _ (fun _ k => XS.ifNo X336.here hx rfl (hb hby at_233) rfl (by decide) k) ?_
              show G (T336.setTop (mkF m 236 #[i' p0, i' p1, i' p2, i' p3, .val .null, r' b_292, r' b_305, r' b_317, i' 0, i' pl_327, i' len_331] []))
              refine go _ _ (fun _ k => XS.aload X336.here hx rfl (hb hby at_236) rfl rfl (XS.iconst X336.here hx rfl (hb hby at_238) (XS.iload X336.here hx rfl (hb hby at_239) rfl (XS.aload X336.here hx rfl (hb hby at_241) rfl rfl (XS.aload X336.here hx rfl (hb hby at_243) rfl rfl (XS.aload X336.here hx rfl (hb hby at_245) rfl rfl k)))))) ?_
              obtain ⟨rv337, T337, L337, X337, q337, st337⟩ := own_st X336 hx hZ299 (y := (⟨"com/example/naslov/naslov/UriJoinAuthorityPinLaw", "at", "(Ljava/lang/String;IILjava/lang/String;Ljava/lang/String;Ljava/lang/String;)Z"⟩ : MethodName)) hown299 (ow hw 148 rfl) (ow hw 149 rfl) (ow hw 2 rfl) (ow hw 150 rfl) (by decide) (own_bkN (W := 0) (rmA01 l Z a0 hw z0 fm0 gl [] b_317 (4 : Int32) len_331 b_292 b_305 cs_293 cs_306 4 T311.heap n0 (Nat.le_trans Z0 Z325) F323 f319 f320 F330 F329 p295 F326 F324 p308 rfl (Eq.symm el331) (by decide)) hZ299 (ow hw 150 rfl) (ow hw 2 rfl) (by decide) (by decide)) e336 (g := (mkF m 247 #[i' p0, i' p1, i' p2, i' p3, .val .null, r' b_292, r' b_305, r' b_317, i' 0, i' pl_327, i' len_331] [(.ref b_305), (.ref b_292), .null, (.int len_331), (.int 4), (.ref b_317)])) rfl (by rw [hml]; rfl) (argsL := [(.ref b_317), (.int (4 : Int32)), (.int len_331), .null, (.ref b_292), (.ref b_305)]) (rest := []) rfl (lenOf own_pd43 rfl) rfl (by show 2 * 0 + _ ≤ _; exact Nat.le_of_eq rfl) (hb hby at_247) (by decide) (by decide)
              obtain ⟨Nq337, e337, rfl⟩ := q337
              have N337 := Fr.app N336 Nq337
              refine go _ _ (st337) ?_
              show G (T337.setTop (mkF m 250 #[i' p0, i' p1, i' p2, i' p3, .val .null, r' b_292, r' b_305, r' b_317, i' 0, i' pl_327, i' len_331] [(.int 1)]))
              refine go _ _ (fun _ k => XS.ifNo X337.here hx rfl (hb hby at_250) rfl (by decide) k) ?_
              show G (T337.setTop (mkF m 253 #[i' p0, i' p1, i' p2, i' p3, .val .null, r' b_292, r' b_305, r' b_317, i' 0, i' pl_327, i' len_331] []))
              refine go _ _ (fun _ k => XS.aload X337.here hx rfl (hb hby at_253) rfl rfl (XS.iconst X337.here hx rfl (hb hby at_255) (XS.iload X337.here hx rfl (hb hby at_256) rfl (XS.aload X337.here hx rfl (hb hby at_258) rfl rfl (XS.aload X337.here hx rfl (hb hby at_260) rfl rfl (XS.aload X337.here hx rfl (hb hby at_262) rfl rfl k)))))) ?_
              obtain ⟨rv338, T338, L338, X338, q338, st338⟩ := own_st X337 hx hZ299 (y := (⟨"com/example/naslov/naslov/UriJoinAuthorityPinLaw", "at", "(Ljava/lang/String;IILjava/lang/String;Ljava/lang/String;Ljava/lang/String;)Z"⟩ : MethodName)) hown299 (ow hw 148 rfl) (ow hw 149 rfl) (ow hw 2 rfl) (ow hw 150 rfl) (by decide) (own_bkN (W := 0) (rmA01 l Z a0 hw z0 fm0 gl [] b_317 (5 : Int32) len_331 b_292 b_305 cs_293 cs_306 5 T311.heap n0 (Nat.le_trans Z0 Z325) F323 f319 f320 F330 F329 p295 F326 F324 p308 rfl (Eq.symm el331) (by decide)) hZ299 (ow hw 150 rfl) (ow hw 2 rfl) (by decide) (by decide)) e337 (g := (mkF m 264 #[i' p0, i' p1, i' p2, i' p3, .val .null, r' b_292, r' b_305, r' b_317, i' 0, i' pl_327, i' len_331] [(.ref b_305), (.ref b_292), .null, (.int len_331), (.int 5), (.ref b_317)])) rfl (by rw [hml]; rfl) (argsL := [(.ref b_317), (.int (5 : Int32)), (.int len_331), .null, (.ref b_292), (.ref b_305)]) (rest := []) rfl (lenOf own_pd43 rfl) rfl (by show 2 * 0 + _ ≤ _; exact Nat.le_of_eq rfl) (hb hby at_264) (by decide) (by decide)
              obtain ⟨Nq338, e338, rfl⟩ := q338
              have N338 := Fr.app N337 Nq338
              refine go _ _ (st338) ?_
              show G (T338.setTop (mkF m 267 #[i' p0, i' p1, i' p2, i' p3, .val .null, r' b_292, r' b_305, r' b_317, i' 0, i' pl_327, i' len_331] [(.int 1)]))
              refine go _ _ (fun _ k => XS.ifNo X338.here hx rfl (hb hby at_267) rfl (by decide) k) ?_
              show G (T338.setTop (mkF m 270 #[i' p0, i' p1, i' p2, i' p3, .val .null, r' b_292, r' b_305, r' b_317, i' 0, i' pl_327, i' len_331] []))
              refine go _ _ (fun _ k => XS.aload X338.here hx rfl (hb hby at_270) rfl rfl (XS.bipush X338.here hx rfl (hb hby at_272) (XS.iload X338.here hx rfl (hb hby at_274) rfl (XS.aload X338.here hx rfl (hb hby at_276) rfl rfl (XS.aload X338.here hx rfl (hb hby at_278) rfl rfl (XS.aload X338.here hx rfl (hb hby at_280) rfl rfl k)))))) ?_
              obtain ⟨rv339, T339, L339, X339, q339, st339⟩ := own_st X338 hx hZ299 (y := (⟨"com/example/naslov/naslov/UriJoinAuthorityPinLaw", "at", "(Ljava/lang/String;IILjava/lang/String;Ljava/lang/String;Ljava/lang/String;)Z"⟩ : MethodName)) hown299 (ow hw 148 rfl) (ow hw 149 rfl) (ow hw 2 rfl) (ow hw 150 rfl) (by decide) (own_bkN (W := 0) (rmA01 l Z a0 hw z0 fm0 gl [] b_317 (6 : Int32) len_331 b_292 b_305 cs_293 cs_306 6 T311.heap n0 (Nat.le_trans Z0 Z325) F323 f319 f320 F330 F329 p295 F326 F324 p308 rfl (Eq.symm el331) (by decide)) hZ299 (ow hw 150 rfl) (ow hw 2 rfl) (by decide) (by decide)) e338 (g := (mkF m 282 #[i' p0, i' p1, i' p2, i' p3, .val .null, r' b_292, r' b_305, r' b_317, i' 0, i' pl_327, i' len_331] [(.ref b_305), (.ref b_292), .null, (.int len_331), (.int 6), (.ref b_317)])) rfl (by rw [hml]; rfl) (argsL := [(.ref b_317), (.int (6 : Int32)), (.int len_331), .null, (.ref b_292), (.ref b_305)]) (rest := []) rfl (lenOf own_pd43 rfl) rfl (by show 2 * 0 + _ ≤ _; exact Nat.le_of_eq rfl) (hb hby at_282) (by decide) (by decide)
              obtain ⟨Nq339, e339, rfl⟩ := q339
              have N339 := Fr.app N338 Nq339
              refine go _ _ (st339) ?_
              show G (T339.setTop (mkF m 285 #[i' p0, i' p1, i' p2, i' p3, .val .null, r' b_292, r' b_305, r' b_317, i' 0, i' pl_327, i' len_331] [(.int 1)]))
              refine go _ _ (fun _ k => XS.ifNo X339.here hx rfl (hb hby at_285) rfl (by decide) k) ?_
              show G (T339.setTop (mkF m 288 #[i' p0, i' p1, i' p2, i' p3, .val .null, r' b_292, r' b_305, r' b_317, i' 0, i' pl_327, i' len_331] []))
              refine go _ _ (fun _ k => XS.aload X339.here hx rfl (hb hby at_288) rfl rfl (XS.bipush X339.here hx rfl (hb hby at_290) (XS.iload X339.here hx rfl (hb hby at_292) rfl (XS.aload X339.here hx rfl (hb hby at_294) rfl rfl (XS.aload X339.here hx rfl (hb hby at_296) rfl rfl (XS.aload X339.here hx rfl (hb hby at_298) rfl rfl k)))))) ?_
              obtain ⟨rv340, T340, L340, X340, q340, st340⟩ := own_st X339 hx hZ299 (y := (⟨"com/example/naslov/naslov/UriJoinAuthorityPinLaw", "at", "(Ljava/lang/String;IILjava/lang/String;Ljava/lang/String;Ljava/lang/String;)Z"⟩ : MethodName)) hown299 (ow hw 148 rfl) (ow hw 149 rfl) (ow hw 2 rfl) (ow hw 150 rfl) (by decide) (own_bkN (W := 0) (rmA01 l Z a0 hw z0 fm0 gl [] b_317 (7 : Int32) len_331 b_292 b_305 cs_293 cs_306 7 T311.heap n0 (Nat.le_trans Z0 Z325) F323 f319 f320 F330 F329 p295 F326 F324 p308 rfl (Eq.symm el331) (by decide)) hZ299 (ow hw 150 rfl) (ow hw 2 rfl) (by decide) (by decide)) e339 (g := (mkF m 300 #[i' p0, i' p1, i' p2, i' p3, .val .null, r' b_292, r' b_305, r' b_317, i' 0, i' pl_327, i' len_331] [(.ref b_305), (.ref b_292), .null, (.int len_331), (.int 7), (.ref b_317)])) rfl (by rw [hml]; rfl) (argsL := [(.ref b_317), (.int (7 : Int32)), (.int len_331), .null, (.ref b_292), (.ref b_305)]) (rest := []) rfl (lenOf own_pd43 rfl) rfl (by show 2 * 0 + _ ≤ _; exact Nat.le_of_eq rfl) (hb hby at_300) (by decide) (by decide)
              obtain ⟨Nq340, e340, rfl⟩ := q340
              have N340 := Fr.app N339 Nq340
              refine go _ _ (st340) ?_
              show G (T340.setTop (mkF m 303 #[i' p0, i' p1, i' p2, i' p3, .val .null, r' b_292, r' b_305, r' b_317, i' 0, i' pl_327, i' len_331] [(.int 1)]))
              refine go _ _ (fun _ k => XS.ifNo X340.here hx rfl (hb hby at_303) rfl (by decide) k) ?_
              show G (T340.setTop (mkF m 306 #[i' p0, i' p1, i' p2, i' p3, .val .null, r' b_292, r' b_305, r' b_317, i' 0, i' pl_327, i' len_331] []))
              refine go _ _ (fun _ k => XS.iconst X340.here hx rfl (hb hby at_306) k) ?_
              show G (T340.setTop (mkF m 307 #[i' p0, i' p1, i' p2, i' p3, .val .null, r' b_292, r' b_305, r' b_317, i' 0, i' pl_327, i' len_331] [(.int 1)]))
              refine go _ _ (fun _ k => XS.goto X340.here hx rfl (pc0 := 307) (pc' := 311) rfl (hb hby at_307) (by decide) (by decide) k) ?_
              show G (T340.setTop (mkF m 311 #[i' p0, i' p1, i' p2, i' p3, .val .null, r' b_292, r' b_305, r' b_317, i' 0, i' pl_327, i' len_331] [(.int 1)]))
              have K341 : Keep h0 T286.heap [] := K287.trans Kp286 all0
              have K342 : Keep h0 T299.heap [] := K341.trans Kp299 all0
              have K343 : Keep h0 T311.heap [] := K342.trans Kp311 all0
              have C344 : CHr Z own_EL s.vm h0 T299.vm T299.heap := C303.trans C299
              have C345 : CHr Z own_EL s.vm h0 T299.vm T311.heap := C344.trans (CHr.keep K322 sf0 C344.1)
              have Z346 : T299.heap.size ≤ T311.heap.size := Kp311.1
              refine fin T340 _ _ _ (some (.int (1 : Int32))) T299.vm _ X340 hZ299 hS299 (by rw [e340]; exact (Nat.le_trans (Nat.le_refl _) Z346)) (by rw [e340]; exact C345) (fun q => nomatch q) (by decide) (by decide) (by rw [e340]; exact ⟨N340, K343, rfl⟩) _ (own_retN X340 hx (z := (1 : Int32)) (t := .boolean) hret (by simp) (hb hby at_311))
          · refine go _ _ (fun _ k => XS.ifNo X286.here hx rfl (hb hby at_51) rfl ((if0 _ _).trans (feq hc51_298).1) k) ?_
            show G (T286.setTop (mkF m 54 #[i' p0, i' p1, i' p2, i' p3, .val .null, r' b_292, u', u', u', u', u'] []))
            refine go _ _ (fun _ k => XS.iconst X286.here hx rfl (hb hby at_54) k) ?_
            show G (T286.setTop (mkF m 55 #[i' p0, i' p1, i' p2, i' p3, .val .null, r' b_292, u', u', u', u', u'] [(.int 1)]))
            refine go _ _ (fun _ k => XS.goto X286.here hx rfl (pc0 := 55) (pc' := 59) rfl (hb hby at_55) (by decide) (by decide) k) ?_
            show G (T286.setTop (mkF m 59 #[i' p0, i' p1, i' p2, i' p3, .val .null, r' b_292, u', u', u', u', u'] [(.int 1)]))
            refine go _ _ (fun _ k => XS.iloadN X286.here hx rfl (hb hby at_59) rfl (XS.bipush X286.here hx rfl (hb hby at_60) (XS.iushr X286.here hx rfl (hb hby at_62) rfl (XS.iconst X286.here hx rfl (hb hby at_63) (XS.iand X286.here hx rfl (hb hby at_64) rfl (XS.iconst X286.here hx rfl (hb hby at_65) k)))))) ?_
            show G (T286.setTop (mkF m 66 #[i' p0, i' p1, i' p2, i' p3, .val .null, r' b_292, u', u', u', u', u'] [(.int 3), (.int (((p3.toUInt32 >>> ((7 : Int32) &&& 31).toUInt32).toInt32) &&& (3 : Int32))), (.int 1)]))
            refine go _ _ (fun _ k => iremM X286 hx rfl (hb hby at_66) rfl (by decide) k) ?_
            show G (T286.setTop (mkF m 67 #[i' p0, i' p1, i' p2, i' p3, .val .null, r' b_292, u', u', u', u', u'] [(.int ((((p3.toUInt32 >>> ((7 : Int32) &&& 31).toUInt32).toInt32) &&& (3 : Int32)) % (3 : Int32))), (.int 1)]))
            refine go _ _ (fun _ k => XS.iloadN X286.here hx rfl (hb hby at_67) rfl k) ?_
            have K348 : Keep T277.heap T286.heap [] := (Keep.refl T277.heap []).trans Kp286 all0
            have F349 : Old Z n0 T286.heap := (F288.keep K348 all0)
            have Z350 : h0.size ≤ T286.heap.size := Nat.le_trans Z289 Kp286.1
            have C351 : CHr Z own_EL s.vm h0 T286.vm T286.heap := C290.trans C286
            obtain ⟨rv347, T347, L347, X347, q347, hZ347, hown347, hS347, C347, st347⟩ := own_stW X286 hx hZ286 (y := (⟨"com/example/naslov/naslov/UriJoinAuthorityPinLaw", "part", "(ZII)Ljava/lang/String;"⟩ : MethodName)) hown286 (ow hw 0 rfl) (ow hw 1 rfl) (ow hw 2 rfl) (ow hw 3 rfl) (by decide) (own_bkH (W := 0) (rm0 l Z a0 hw z0 fm0 gl [] (1 : Int32) ((((p3.toUInt32 >>> ((7 : Int32) &&& 31).toUInt32).toInt32) &&& (3 : Int32)) % (3 : Int32)) p2 T286.heap n0 (Nat.le_trans Z0 Z350) F349) hZ286 (ow hw 3 rfl) (ow hw 2 rfl) (by decide) (by decide) (own_hEL hw) C351.1) rfl hS286 (Nat.le_refl _) (g := (mkF m 68 #[i' p0, i' p1, i' p2, i' p3, .val .null, r' b_292, u', u', u', u', u'] [(.int p2), (.int ((((p3.toUInt32 >>> ((7 : Int32) &&& 31).toUInt32).toInt32) &&& (3 : Int32)) % (3 : Int32))), (.int 1)])) rfl (by rw [hml]; rfl) (argsL := [(.int (1 : Int32)), (.int ((((p3.toUInt32 >>> ((7 : Int32) &&& 31).toUInt32).toInt32) &&& (3 : Int32)) % (3 : Int32))), (.int p2)]) (rest := []) rfl (lenOf own_pd41 rfl) rfl (by show 2 * 0 + _ ≤ _; exact Nat.le_of_eq rfl) (hb hby at_68) (by decide) (by decide)
            obtain ⟨Nq347, Kp347, q347⟩ := q347
            have N347 := Fr.app N286 Nq347
            rcases q347 with ⟨rfl, p352⟩ | ⟨b_353, cs_354, rfl, p355, p356, f357, f358⟩
            · refine go _ _ (st347) ?_
              show G (T347.setTop (mkF m 71 #[i' p0, i' p1, i' p2, i' p3, .val .null, r' b_292, u', u', u', u', u'] [.null]))
              refine go _ _ (fun _ k => XS.astore X347.here hx rfl (hb hby at_71) rfl rfl (l' := #[i' p0, i' p1, i' p2, i' p3, .val .null, r' b_292, .val .null, u', u', u', u']) rfl (XS.aload X347.here hx rfl (hb hby at_73) rfl rfl (XS.aload X347.here hx rfl (hb hby at_75) rfl rfl (XS.aload X347.here hx rfl (hb hby at_77) rfl rfl k)))) ?_
              have K360 : Keep T286.heap T347.heap [] := (Keep.refl T286.heap []).trans Kp347 all0
              have F361 : Old Z n0 T347.heap := (F349.keep K360 all0)
              have F362 : Exa Z T347.heap b_292 "java/lang/String" := (f296.keep K360)
              have F363 : own_S Z T347.heap b_292 cs_293 := (own_S_keep f297 K360)
              have Z364 : h0.size ≤ T347.heap.size := Nat.le_trans Z350 Kp347.1
              obtain ⟨rv359, T359, L359, X359, q359, st359⟩ := own_st X347 hx hZ347 (y := (⟨"com/example/naslov/naslov/Uri", "joinAuthority", "(Ljava/lang/String;Ljava/lang/String;Ljava/lang/String;)Ljava/lang/String;"⟩ : MethodName)) hown347 (ow hw 12 rfl) (ow hw 13 rfl) (ow hw 14 rfl) (ow hw 15 rfl) (by decide) (own_bkN (W := 0) (rmJ00 l Z a0 hw z0 fm0 gl [] b_292 cs_293 T347.heap n0 (Nat.le_trans Z0 Z364) F361 F362 F363 p295) hZ347 (ow hw 15 rfl) (ow hw 14 rfl) (by decide) (by decide)) rfl (g := (mkF m 79 #[i' p0, i' p1, i' p2, i' p3, .val .null, r' b_292, .val .null, u', u', u', u'] [.null, (.ref b_292), .null])) rfl (by rw [hml]; rfl) (argsL := [.null, (.ref b_292), .null]) (rest := []) rfl (lenOf own_pd42 rfl) rfl (by show 2 * 0 + _ ≤ _; exact Nat.le_of_eq rfl) (hb hby at_79) (by decide) (by decide)
              obtain ⟨Nq359, Kp359, ⟨b_365, rfl, z366, f367, f368⟩⟩ := q359
              have N359 := Fr.app N347 Nq359
              refine go _ _ (st359) ?_
              show G (T359.setTop (mkF m 82 #[i' p0, i' p1, i' p2, i' p3, .val .null, r' b_292, .val .null, u', u', u', u'] [(.ref b_365)]))
              refine go _ _ (fun _ k => XS.astore X359.here hx rfl (hb hby at_82) rfl rfl (l' := #[i' p0, i' p1, i' p2, i' p3, .val .null, r' b_292, .val .null, r' b_365, u', u', u']) rfl (XS.aload X359.here hx rfl (hb hby at_84) rfl rfl k)) ?_
              show G (T359.setTop (mkF m 86 #[i' p0, i' p1, i' p2, i' p3, .val .null, r' b_292, .val .null, r' b_365, u', u', u'] [(.ref b_292)]))
              refine go _ _ (fun _ k => XS.ifnonnullYes X359.here hx rfl (pc0 := 86) (pc' := 100) rfl (hb hby at_86) rfl (by decide) (by decide) k) ?_
              show G (T359.setTop (mkF m 100 #[i' p0, i' p1, i' p2, i' p3, .val .null, r' b_292, .val .null, r' b_365, u', u', u'] []))
              refine go _ _ (fun _ k => XS.aload X359.here hx rfl (hb hby at_100) rfl rfl k) ?_
              show G (T359.setTop (mkF m 102 #[i' p0, i' p1, i' p2, i' p3, .val .null, r' b_292, .val .null, r' b_365, u', u', u'] [(.ref b_365)]))
              refine go _ _ (fun _ k => XS.ifnonnullYes X359.here hx rfl (pc0 := 102) (pc' := 107) rfl (hb hby at_102) rfl (by decide) (by decide) k) ?_
              show G (T359.setTop (mkF m 107 #[i' p0, i' p1, i' p2, i' p3, .val .null, r' b_292, .val .null, r' b_365, u', u', u'] []))
              refine go _ _ (fun _ k => XS.aload X359.here hx rfl (hb hby at_107) rfl rfl k) ?_
              show G (T359.setTop (mkF m 109 #[i' p0, i' p1, i' p2, i' p3, .val .null, r' b_292, .val .null, r' b_365, u', u', u'] [.null]))
              refine go _ _ (fun _ k => XS.ifnonnullNo X359.here hx rfl (hb hby at_109) rfl k) ?_
              show G (T359.setTop (mkF m 112 #[i' p0, i' p1, i' p2, i' p3, .val .null, r' b_292, .val .null, r' b_365, u', u', u'] []))
              refine go _ _ (fun _ k => XS.iconst X359.here hx rfl (hb hby at_112) k) ?_
              show G (T359.setTop (mkF m 113 #[i' p0, i' p1, i' p2, i' p3, .val .null, r' b_292, .val .null, r' b_365, u', u', u'] [(.int 0)]))
              refine go _ _ (fun _ k => XS.goto X359.here hx rfl (pc0 := 113) (pc' := 123) rfl (hb hby at_113) (by decide) (by decide) k) ?_
              show G (T359.setTop (mkF m 123 #[i' p0, i' p1, i' p2, i' p3, .val .null, r' b_292, .val .null, r' b_365, u', u', u'] [(.int 0)]))
              refine go _ _ (fun _ k => XS.istore X359.here hx rfl (hb hby at_123) rfl (l' := #[i' p0, i' p1, i' p2, i' p3, .val .null, r' b_292, .val .null, r' b_365, i' 0, u', u']) rfl (XS.aload X359.here hx rfl (hb hby at_125) rfl rfl k)) ?_
              show G (T359.setTop (mkF m 127 #[i' p0, i' p1, i' p2, i' p3, .val .null, r' b_292, .val .null, r' b_365, i' 0, u', u'] [.null]))
              refine go _ _ (fun _ k => XS.ifnonnullNo X359.here hx rfl (hb hby at_127) rfl k) ?_
              show G (T359.setTop (mkF m 130 #[i' p0, i' p1, i' p2, i' p3, .val .null, r' b_292, .val .null, r' b_365, i' 0, u', u'] []))
              refine go _ _ (fun _ k => XS.iconst X359.here hx rfl (hb hby at_130) k) ?_
              show G (T359.setTop (mkF m 131 #[i' p0, i' p1, i' p2, i' p3, .val .null, r' b_292, .val .null, r' b_365, i' 0, u', u'] [(.int 0)]))
              refine go _ _ (fun _ k => XS.goto X359.here hx rfl (pc0 := 131) (pc' := 141) rfl (hb hby at_131) (by decide) (by decide) k) ?_
              show G (T359.setTop (mkF m 141 #[i' p0, i' p1, i' p2, i' p3, .val .null, r' b_292, .val .null, r' b_365, i' 0, u', u'] [(.int 0)]))
              refine go _ _ (fun _ k => XS.istore X359.here hx rfl (hb hby at_141) rfl (l' := #[i' p0, i' p1, i' p2, i' p3, .val .null, r' b_292, .val .null, r' b_365, i' 0, i' 0, u']) rfl (XS.iload X359.here hx rfl (hb hby at_143) rfl (XS.aload X359.here hx rfl (hb hby at_145) rfl rfl k))) ?_
              have K370 : Keep T347.heap T359.heap [] := (Keep.refl T347.heap []).trans Kp359 all0
              have F371 : Old Z n0 T359.heap := (F361.keep K370 all0)
              have F372 : own_S Z T359.heap b_292 cs_293 := (own_S_keep F363 K370)
              have Z373 : h0.size ≤ T359.heap.size := Nat.le_trans Z364 Kp359.1
              have F374 : Exa Z T359.heap b_292 "java/lang/String" := (F362.keep K370)
              obtain ⟨rv369, T369, L369, X369, q369, st369⟩ := own_vi X359 hx hZ347 (y := (⟨"java/lang/String", "length", "()I"⟩ : MethodName)) (z := (⟨"java/lang/String", "length", "()I"⟩ : MethodName)) hown347 (ow hw 147 rfl) (ow hw 47 rfl) (ow hw 49 rfl) (ow hw 48 rfl) (Or.inl rfl) (by decide) (own_bkN (W := 1) (rm7 l Z a0 hw z0 fm0 gl [] b_292 cs_293 T359.heap n0 (Nat.le_trans Z0 Z373) F371 F372) hZ347 (ow hw 50 rfl) (ow hw 5 rfl) (by decide) (by decide)) rfl F374 (g := (mkF m 147 #[i' p0, i' p1, i' p2, i' p3, .val .null, r' b_292, .val .null, r' b_365, i' 0, i' 0, u'] [(.ref b_292), (.int 0)])) rfl (by rw [hml]; rfl) (argsL := []) (rest := [(.int (0 : Int32))]) rfl (lenOf own_pd20 rfl) rfl (by show 2 * 0 + _ ≤ _; exact Nat.le_of_eq rfl) (hb hby at_147) (by decide) (by decide)
              obtain ⟨Nq369, e369, rfl⟩ := q369
              have N369 := Fr.app N359 Nq369
              refine go _ _ (st369) ?_
              show G (T369.setTop (mkF m 150 #[i' p0, i' p1, i' p2, i' p3, .val .null, r' b_292, .val .null, r' b_365, i' 0, i' 0, u'] [(.int (own_n cs_293)), (.int 0)]))
              refine go _ _ (fun _ k => XS.iadd X369.here hx rfl (hb hby at_150) rfl (XS.iload X369.here hx rfl (hb hby at_151) rfl (XS.iadd X369.here hx rfl (hb hby at_153) rfl k))) ?_
              show G (T369.setTop (mkF m 154 #[i' p0, i' p1, i' p2, i' p3, .val .null, r' b_292, .val .null, r' b_365, i' 0, i' 0, u'] [(.int (((0 : Int32) + (own_n cs_293)) + (0 : Int32)))]))
              obtain ⟨len_375, el375⟩ : ∃ z : Int32, own_n cs_293 = z := ⟨_, rfl⟩
              have hl375 : (((0 : Int32) + (own_n cs_293)) + (0 : Int32)) = len_375 := by rw [← el375]; exact own_len00 cs_293
              rw [hl375]
              show G (T369.setTop (mkF m 154 #[i' p0, i' p1, i' p2, i' p3, .val .null, r' b_292, .val .null, r' b_365, i' 0, i' 0, u'] [(.int len_375)]))
              refine go _ _ (fun _ k => XS.istore X369.here hx rfl (hb hby at_154) rfl (l' := #[i' p0, i' p1, i' p2, i' p3, .val .null, r' b_292, .val .null, r' b_365, i' 0, i' 0, i' len_375]) rfl (XS.aload X369.here hx rfl (hb hby at_156) rfl rfl k)) ?_
              obtain ⟨rv376, T376, L376, X376, q376, st376⟩ := own_vi X369 hx hZ347 (y := (⟨"java/lang/String", "length", "()I"⟩ : MethodName)) (z := (⟨"java/lang/String", "length", "()I"⟩ : MethodName)) hown347 (ow hw 147 rfl) (ow hw 47 rfl) (ow hw 49 rfl) (ow hw 48 rfl) (Or.inl rfl) (by decide) (own_bkN (W := 0) (rm7 l Z a0 hw z0 fm0 gl [] b_365 cs_293 T359.heap n0 (Nat.le_trans Z0 Z373) F371 f368) hZ347 (ow hw 50 rfl) (ow hw 5 rfl) (by decide) (by decide)) e369 f367 (g := (mkF m 158 #[i' p0, i' p1, i' p2, i' p3, .val .null, r' b_292, .val .null, r' b_365, i' 0, i' 0, i' len_375] [(.ref b_365)])) rfl (by rw [hml]; rfl) (argsL := []) (rest := []) rfl (lenOf own_pd20 rfl) rfl (by show 2 * 0 + _ ≤ _; exact Nat.le_of_eq rfl) (hb hby at_158) (by decide) (by decide)
              obtain ⟨Nq376, e376, rfl⟩ := q376
              have N376 := Fr.app N369 Nq376
              refine go _ _ (st376) ?_
              show G (T376.setTop (mkF m 161 #[i' p0, i' p1, i' p2, i' p3, .val .null, r' b_292, .val .null, r' b_365, i' 0, i' 0, i' len_375] [(.int (own_n cs_293))]))
              refine go _ _ (fun _ k => XS.iload X376.here hx rfl (hb hby at_161) rfl k) ?_
              show G (T376.setTop (mkF m 163 #[i' p0, i' p1, i' p2, i' p3, .val .null, r' b_292, .val .null, r' b_365, i' 0, i' 0, i' len_375] [(.int len_375), (.int (own_n cs_293))]))
              refine go _ _ (fun _ k => XS.icmpYes X376.here hx rfl (pc0 := 163) (pc' := 168) rfl (hb hby at_163) rfl (teq el375).1 (by decide) (by decide) k) ?_
              show G (T376.setTop (mkF m 168 #[i' p0, i' p1, i' p2, i' p3, .val .null, r' b_292, .val .null, r' b_365, i' 0, i' 0, i' len_375] []))
              refine go _ _ (fun _ k => XS.aload X376.here hx rfl (hb hby at_168) rfl rfl (XS.iconst X376.here hx rfl (hb hby at_170) (XS.iload X376.here hx rfl (hb hby at_171) rfl (XS.aload X376.here hx rfl (hb hby at_173) rfl rfl (XS.aload X376.here hx rfl (hb hby at_175) rfl rfl (XS.aload X376.here hx rfl (hb hby at_177) rfl rfl k)))))) ?_
              obtain ⟨rv377, T377, L377, X377, q377, st377⟩ := own_st X376 hx hZ347 (y := (⟨"com/example/naslov/naslov/UriJoinAuthorityPinLaw", "at", "(Ljava/lang/String;IILjava/lang/String;Ljava/lang/String;Ljava/lang/String;)Z"⟩ : MethodName)) hown347 (ow hw 148 rfl) (ow hw 149 rfl) (ow hw 2 rfl) (ow hw 150 rfl) (by decide) (own_bkN (W := 0) (rmA00 l Z a0 hw z0 fm0 gl [] b_365 (0 : Int32) len_375 b_292 cs_293 0 T359.heap n0 (Nat.le_trans Z0 Z373) F371 f367 f368 F374 F372 p295 rfl (Eq.symm el375) (by decide)) hZ347 (ow hw 150 rfl) (ow hw 2 rfl) (by decide) (by decide)) e376 (g := (mkF m 179 #[i' p0, i' p1, i' p2, i' p3, .val .null, r' b_292, .val .null, r' b_365, i' 0, i' 0, i' len_375] [.null, (.ref b_292), .null, (.int len_375), (.int 0), (.ref b_365)])) rfl (by rw [hml]; rfl) (argsL := [(.ref b_365), (.int (0 : Int32)), (.int len_375), .null, (.ref b_292), .null]) (rest := []) rfl (lenOf own_pd43 rfl) rfl (by show 2 * 0 + _ ≤ _; exact Nat.le_of_eq rfl) (hb hby at_179) (by decide) (by decide)
              obtain ⟨Nq377, e377, rfl⟩ := q377
              have N377 := Fr.app N376 Nq377
              refine go _ _ (st377) ?_
              show G (T377.setTop (mkF m 182 #[i' p0, i' p1, i' p2, i' p3, .val .null, r' b_292, .val .null, r' b_365, i' 0, i' 0, i' len_375] [(.int 1)]))
              refine go _ _ (fun _ k => XS.ifNo X377.here hx rfl (hb hby at_182) rfl (by decide) k) ?_
              show G (T377.setTop (mkF m 185 #[i' p0, i' p1, i' p2, i' p3, .val .null, r' b_292, .val .null, r' b_365, i' 0, i' 0, i' len_375] []))
              refine go _ _ (fun _ k => XS.aload X377.here hx rfl (hb hby at_185) rfl rfl (XS.iconst X377.here hx rfl (hb hby at_187) (XS.iload X377.here hx rfl (hb hby at_188) rfl (XS.aload X377.here hx rfl (hb hby at_190) rfl rfl (XS.aload X377.here hx rfl (hb hby at_192) rfl rfl (XS.aload X377.here hx rfl (hb hby at_194) rfl rfl k)))))) ?_
              obtain ⟨rv378, T378, L378, X378, q378, st378⟩ := own_st X377 hx hZ347 (y := (⟨"com/example/naslov/naslov/UriJoinAuthorityPinLaw", "at", "(Ljava/lang/String;IILjava/lang/String;Ljava/lang/String;Ljava/lang/String;)Z"⟩ : MethodName)) hown347 (ow hw 148 rfl) (ow hw 149 rfl) (ow hw 2 rfl) (ow hw 150 rfl) (by decide) (own_bkN (W := 0) (rmA00 l Z a0 hw z0 fm0 gl [] b_365 (1 : Int32) len_375 b_292 cs_293 1 T359.heap n0 (Nat.le_trans Z0 Z373) F371 f367 f368 F374 F372 p295 rfl (Eq.symm el375) (by decide)) hZ347 (ow hw 150 rfl) (ow hw 2 rfl) (by decide) (by decide)) e377 (g := (mkF m 196 #[i' p0, i' p1, i' p2, i' p3, .val .null, r' b_292, .val .null, r' b_365, i' 0, i' 0, i' len_375] [.null, (.ref b_292), .null, (.int len_375), (.int 1), (.ref b_365)])) rfl (by rw [hml]; rfl) (argsL := [(.ref b_365), (.int (1 : Int32)), (.int len_375), .null, (.ref b_292), .null]) (rest := []) rfl (lenOf own_pd43 rfl) rfl (by show 2 * 0 + _ ≤ _; exact Nat.le_of_eq rfl) (hb hby at_196) (by decide) (by decide)
              obtain ⟨Nq378, e378, rfl⟩ := q378
              have N378 := Fr.app N377 Nq378
              refine go _ _ (st378) ?_
              show G (T378.setTop (mkF m 199 #[i' p0, i' p1, i' p2, i' p3, .val .null, r' b_292, .val .null, r' b_365, i' 0, i' 0, i' len_375] [(.int 1)]))
              refine go _ _ (fun _ k => XS.ifNo X378.here hx rfl (hb hby at_199) rfl (by decide) k) ?_
              show G (T378.setTop (mkF m 202 #[i' p0, i' p1, i' p2, i' p3, .val .null, r' b_292, .val .null, r' b_365, i' 0, i' 0, i' len_375] []))
              refine go _ _ (fun _ k => XS.aload X378.here hx rfl (hb hby at_202) rfl rfl (XS.iconst X378.here hx rfl (hb hby at_204) (XS.iload X378.here hx rfl (hb hby at_205) rfl (XS.aload X378.here hx rfl (hb hby at_207) rfl rfl (XS.aload X378.here hx rfl (hb hby at_209) rfl rfl (XS.aload X378.here hx rfl (hb hby at_211) rfl rfl k)))))) ?_
              obtain ⟨rv379, T379, L379, X379, q379, st379⟩ := own_st X378 hx hZ347 (y := (⟨"com/example/naslov/naslov/UriJoinAuthorityPinLaw", "at", "(Ljava/lang/String;IILjava/lang/String;Ljava/lang/String;Ljava/lang/String;)Z"⟩ : MethodName)) hown347 (ow hw 148 rfl) (ow hw 149 rfl) (ow hw 2 rfl) (ow hw 150 rfl) (by decide) (own_bkN (W := 0) (rmA00 l Z a0 hw z0 fm0 gl [] b_365 (2 : Int32) len_375 b_292 cs_293 2 T359.heap n0 (Nat.le_trans Z0 Z373) F371 f367 f368 F374 F372 p295 rfl (Eq.symm el375) (by decide)) hZ347 (ow hw 150 rfl) (ow hw 2 rfl) (by decide) (by decide)) e378 (g := (mkF m 213 #[i' p0, i' p1, i' p2, i' p3, .val .null, r' b_292, .val .null, r' b_365, i' 0, i' 0, i' len_375] [.null, (.ref b_292), .null, (.int len_375), (.int 2), (.ref b_365)])) rfl (by rw [hml]; rfl) (argsL := [(.ref b_365), (.int (2 : Int32)), (.int len_375), .null, (.ref b_292), .null]) (rest := []) rfl (lenOf own_pd43 rfl) rfl (by show 2 * 0 + _ ≤ _; exact Nat.le_of_eq rfl) (hb hby at_213) (by decide) (by decide)
              obtain ⟨Nq379, e379, rfl⟩ := q379
              have N379 := Fr.app N378 Nq379
              refine go _ _ (st379) ?_
              show G (T379.setTop (mkF m 216 #[i' p0, i' p1, i' p2, i' p3, .val .null, r' b_292, .val .null, r' b_365, i' 0, i' 0, i' len_375] [(.int 1)]))
              refine go _ _ (fun _ k => XS.ifNo X379.here hx rfl (hb hby at_216) rfl (by decide) k) ?_
              show G (T379.setTop (mkF m 219 #[i' p0, i' p1, i' p2, i' p3, .val .null, r' b_292, .val .null, r' b_365, i' 0, i' 0, i' len_375] []))
              refine go _ _ (fun _ k => XS.aload X379.here hx rfl (hb hby at_219) rfl rfl (XS.iconst X379.here hx rfl (hb hby at_221) (XS.iload X379.here hx rfl (hb hby at_222) rfl (XS.aload X379.here hx rfl (hb hby at_224) rfl rfl (XS.aload X379.here hx rfl (hb hby at_226) rfl rfl (XS.aload X379.here hx rfl (hb hby at_228) rfl rfl k)))))) ?_
              obtain ⟨rv380, T380, L380, X380, q380, st380⟩ := own_st X379 hx hZ347 (y := (⟨"com/example/naslov/naslov/UriJoinAuthorityPinLaw", "at", "(Ljava/lang/String;IILjava/lang/String;Ljava/lang/String;Ljava/lang/String;)Z"⟩ : MethodName)) hown347 (ow hw 148 rfl) (ow hw 149 rfl) (ow hw 2 rfl) (ow hw 150 rfl) (by decide) (own_bkN (W := 0) (rmA00 l Z a0 hw z0 fm0 gl [] b_365 (3 : Int32) len_375 b_292 cs_293 3 T359.heap n0 (Nat.le_trans Z0 Z373) F371 f367 f368 F374 F372 p295 rfl (Eq.symm el375) (by decide)) hZ347 (ow hw 150 rfl) (ow hw 2 rfl) (by decide) (by decide)) e379 (g := (mkF m 230 #[i' p0, i' p1, i' p2, i' p3, .val .null, r' b_292, .val .null, r' b_365, i' 0, i' 0, i' len_375] [.null, (.ref b_292), .null, (.int len_375), (.int 3), (.ref b_365)])) rfl (by rw [hml]; rfl) (argsL := [(.ref b_365), (.int (3 : Int32)), (.int len_375), .null, (.ref b_292), .null]) (rest := []) rfl (lenOf own_pd43 rfl) rfl (by show 2 * 0 + _ ≤ _; exact Nat.le_of_eq rfl) (hb hby at_230) (by decide) (by decide)
              obtain ⟨Nq380, e380, rfl⟩ := q380
              have N380 := Fr.app N379 Nq380
              refine go _ _ (st380) ?_
              show G (T380.setTop (mkF m 233 #[i' p0, i' p1, i' p2, i' p3, .val .null, r' b_292, .val .null, r' b_365, i' 0, i' 0, i' len_375] [(.int 1)]))
              refine go _ _ (fun _ k => XS.ifNo X380.here hx rfl (hb hby at_233) rfl (by decide) k) ?_
              show G (T380.setTop (mkF m 236 #[i' p0, i' p1, i' p2, i' p3, .val .null, r' b_292, .val .null, r' b_365, i' 0, i' 0, i' len_375] []))
              refine go _ _ (fun _ k => XS.aload X380.here hx rfl (hb hby at_236) rfl rfl (XS.iconst X380.here hx rfl (hb hby at_238) (XS.iload X380.here hx rfl (hb hby at_239) rfl (XS.aload X380.here hx rfl (hb hby at_241) rfl rfl (XS.aload X380.here hx rfl (hb hby at_243) rfl rfl (XS.aload X380.here hx rfl (hb hby at_245) rfl rfl k)))))) ?_
              obtain ⟨rv381, T381, L381, X381, q381, st381⟩ := own_st X380 hx hZ347 (y := (⟨"com/example/naslov/naslov/UriJoinAuthorityPinLaw", "at", "(Ljava/lang/String;IILjava/lang/String;Ljava/lang/String;Ljava/lang/String;)Z"⟩ : MethodName)) hown347 (ow hw 148 rfl) (ow hw 149 rfl) (ow hw 2 rfl) (ow hw 150 rfl) (by decide) (own_bkN (W := 0) (rmA00 l Z a0 hw z0 fm0 gl [] b_365 (4 : Int32) len_375 b_292 cs_293 4 T359.heap n0 (Nat.le_trans Z0 Z373) F371 f367 f368 F374 F372 p295 rfl (Eq.symm el375) (by decide)) hZ347 (ow hw 150 rfl) (ow hw 2 rfl) (by decide) (by decide)) e380 (g := (mkF m 247 #[i' p0, i' p1, i' p2, i' p3, .val .null, r' b_292, .val .null, r' b_365, i' 0, i' 0, i' len_375] [.null, (.ref b_292), .null, (.int len_375), (.int 4), (.ref b_365)])) rfl (by rw [hml]; rfl) (argsL := [(.ref b_365), (.int (4 : Int32)), (.int len_375), .null, (.ref b_292), .null]) (rest := []) rfl (lenOf own_pd43 rfl) rfl (by show 2 * 0 + _ ≤ _; exact Nat.le_of_eq rfl) (hb hby at_247) (by decide) (by decide)
              obtain ⟨Nq381, e381, rfl⟩ := q381
              have N381 := Fr.app N380 Nq381
              refine go _ _ (st381) ?_
              show G (T381.setTop (mkF m 250 #[i' p0, i' p1, i' p2, i' p3, .val .null, r' b_292, .val .null, r' b_365, i' 0, i' 0, i' len_375] [(.int 1)]))
              refine go _ _ (fun _ k => XS.ifNo X381.here hx rfl (hb hby at_250) rfl (by decide) k) ?_
              show G (T381.setTop (mkF m 253 #[i' p0, i' p1, i' p2, i' p3, .val .null, r' b_292, .val .null, r' b_365, i' 0, i' 0, i' len_375] []))
              refine go _ _ (fun _ k => XS.aload X381.here hx rfl (hb hby at_253) rfl rfl (XS.iconst X381.here hx rfl (hb hby at_255) (XS.iload X381.here hx rfl (hb hby at_256) rfl (XS.aload X381.here hx rfl (hb hby at_258) rfl rfl (XS.aload X381.here hx rfl (hb hby at_260) rfl rfl (XS.aload X381.here hx rfl (hb hby at_262) rfl rfl k)))))) ?_
              obtain ⟨rv382, T382, L382, X382, q382, st382⟩ := own_st X381 hx hZ347 (y := (⟨"com/example/naslov/naslov/UriJoinAuthorityPinLaw", "at", "(Ljava/lang/String;IILjava/lang/String;Ljava/lang/String;Ljava/lang/String;)Z"⟩ : MethodName)) hown347 (ow hw 148 rfl) (ow hw 149 rfl) (ow hw 2 rfl) (ow hw 150 rfl) (by decide) (own_bkN (W := 0) (rmA00 l Z a0 hw z0 fm0 gl [] b_365 (5 : Int32) len_375 b_292 cs_293 5 T359.heap n0 (Nat.le_trans Z0 Z373) F371 f367 f368 F374 F372 p295 rfl (Eq.symm el375) (by decide)) hZ347 (ow hw 150 rfl) (ow hw 2 rfl) (by decide) (by decide)) e381 (g := (mkF m 264 #[i' p0, i' p1, i' p2, i' p3, .val .null, r' b_292, .val .null, r' b_365, i' 0, i' 0, i' len_375] [.null, (.ref b_292), .null, (.int len_375), (.int 5), (.ref b_365)])) rfl (by rw [hml]; rfl) (argsL := [(.ref b_365), (.int (5 : Int32)), (.int len_375), .null, (.ref b_292), .null]) (rest := []) rfl (lenOf own_pd43 rfl) rfl (by show 2 * 0 + _ ≤ _; exact Nat.le_of_eq rfl) (hb hby at_264) (by decide) (by decide)
              obtain ⟨Nq382, e382, rfl⟩ := q382
              have N382 := Fr.app N381 Nq382
              refine go _ _ (st382) ?_
              show G (T382.setTop (mkF m 267 #[i' p0, i' p1, i' p2, i' p3, .val .null, r' b_292, .val .null, r' b_365, i' 0, i' 0, i' len_375] [(.int 1)]))
              refine go _ _ (fun _ k => XS.ifNo X382.here hx rfl (hb hby at_267) rfl (by decide) k) ?_
              show G (T382.setTop (mkF m 270 #[i' p0, i' p1, i' p2, i' p3, .val .null, r' b_292, .val .null, r' b_365, i' 0, i' 0, i' len_375] []))
              refine go _ _ (fun _ k => XS.aload X382.here hx rfl (hb hby at_270) rfl rfl (XS.bipush X382.here hx rfl (hb hby at_272) (XS.iload X382.here hx rfl (hb hby at_274) rfl (XS.aload X382.here hx rfl (hb hby at_276) rfl rfl (XS.aload X382.here hx rfl (hb hby at_278) rfl rfl (XS.aload X382.here hx rfl (hb hby at_280) rfl rfl k)))))) ?_
              obtain ⟨rv383, T383, L383, X383, q383, st383⟩ := own_st X382 hx hZ347 (y := (⟨"com/example/naslov/naslov/UriJoinAuthorityPinLaw", "at", "(Ljava/lang/String;IILjava/lang/String;Ljava/lang/String;Ljava/lang/String;)Z"⟩ : MethodName)) hown347 (ow hw 148 rfl) (ow hw 149 rfl) (ow hw 2 rfl) (ow hw 150 rfl) (by decide) (own_bkN (W := 0) (rmA00 l Z a0 hw z0 fm0 gl [] b_365 (6 : Int32) len_375 b_292 cs_293 6 T359.heap n0 (Nat.le_trans Z0 Z373) F371 f367 f368 F374 F372 p295 rfl (Eq.symm el375) (by decide)) hZ347 (ow hw 150 rfl) (ow hw 2 rfl) (by decide) (by decide)) e382 (g := (mkF m 282 #[i' p0, i' p1, i' p2, i' p3, .val .null, r' b_292, .val .null, r' b_365, i' 0, i' 0, i' len_375] [.null, (.ref b_292), .null, (.int len_375), (.int 6), (.ref b_365)])) rfl (by rw [hml]; rfl) (argsL := [(.ref b_365), (.int (6 : Int32)), (.int len_375), .null, (.ref b_292), .null]) (rest := []) rfl (lenOf own_pd43 rfl) rfl (by show 2 * 0 + _ ≤ _; exact Nat.le_of_eq rfl) (hb hby at_282) (by decide) (by decide)
              obtain ⟨Nq383, e383, rfl⟩ := q383
              have N383 := Fr.app N382 Nq383
              refine go _ _ (st383) ?_
              show G (T383.setTop (mkF m 285 #[i' p0, i' p1, i' p2, i' p3, .val .null, r' b_292, .val .null, r' b_365, i' 0, i' 0, i' len_375] [(.int 1)]))
              refine go _ _ (fun _ k => XS.ifNo X383.here hx rfl (hb hby at_285) rfl (by decide) k) ?_
              show G (T383.setTop (mkF m 288 #[i' p0, i' p1, i' p2, i' p3, .val .null, r' b_292, .val .null, r' b_365, i' 0, i' 0, i' len_375] []))
              refine go _ _ (fun _ k => XS.aload X383.here hx rfl (hb hby at_288) rfl rfl (XS.bipush X383.here hx rfl (hb hby at_290) (XS.iload X383.here hx rfl (hb hby at_292) rfl (XS.aload X383.here hx rfl (hb hby at_294) rfl rfl (XS.aload X383.here hx rfl (hb hby at_296) rfl rfl (XS.aload X383.here hx rfl (hb hby at_298) rfl rfl k)))))) ?_
              obtain ⟨rv384, T384, L384, X384, q384, st384⟩ := own_st X383 hx hZ347 (y := (⟨"com/example/naslov/naslov/UriJoinAuthorityPinLaw", "at", "(Ljava/lang/String;IILjava/lang/String;Ljava/lang/String;Ljava/lang/String;)Z"⟩ : MethodName)) hown347 (ow hw 148 rfl) (ow hw 149 rfl) (ow hw 2 rfl) (ow hw 150 rfl) (by decide) (own_bkN (W := 0) (rmA00 l Z a0 hw z0 fm0 gl [] b_365 (7 : Int32) len_375 b_292 cs_293 7 T359.heap n0 (Nat.le_trans Z0 Z373) F371 f367 f368 F374 F372 p295 rfl (Eq.symm el375) (by decide)) hZ347 (ow hw 150 rfl) (ow hw 2 rfl) (by decide) (by decide)) e383 (g := (mkF m 300 #[i' p0, i' p1, i' p2, i' p3, .val .null, r' b_292, .val .null, r' b_365, i' 0, i' 0, i' len_375] [.null, (.ref b_292), .null, (.int len_375), (.int 7), (.ref b_365)])) rfl (by rw [hml]; rfl) (argsL := [(.ref b_365), (.int (7 : Int32)), (.int len_375), .null, (.ref b_292), .null]) (rest := []) rfl (lenOf own_pd43 rfl) rfl (by show 2 * 0 + _ ≤ _; exact Nat.le_of_eq rfl) (hb hby at_300) (by decide) (by decide)
              obtain ⟨Nq384, e384, rfl⟩ := q384
              have N384 := Fr.app N383 Nq384
              refine go _ _ (st384) ?_
              show G (T384.setTop (mkF m 303 #[i' p0, i' p1, i' p2, i' p3, .val .null, r' b_292, .val .null, r' b_365, i' 0, i' 0, i' len_375] [(.int 1)]))
              refine go _ _ (fun _ k => XS.ifNo X384.here hx rfl (hb hby at_303) rfl (by decide) k) ?_
              show G (T384.setTop (mkF m 306 #[i' p0, i' p1, i' p2, i' p3, .val .null, r' b_292, .val .null, r' b_365, i' 0, i' 0, i' len_375] []))
              refine go _ _ (fun _ k => XS.iconst X384.here hx rfl (hb hby at_306) k) ?_
              show G (T384.setTop (mkF m 307 #[i' p0, i' p1, i' p2, i' p3, .val .null, r' b_292, .val .null, r' b_365, i' 0, i' 0, i' len_375] [(.int 1)]))
              refine go _ _ (fun _ k => XS.goto X384.here hx rfl (pc0 := 307) (pc' := 311) rfl (hb hby at_307) (by decide) (by decide) k) ?_
              show G (T384.setTop (mkF m 311 #[i' p0, i' p1, i' p2, i' p3, .val .null, r' b_292, .val .null, r' b_365, i' 0, i' 0, i' len_375] [(.int 1)]))
              have K385 : Keep h0 T286.heap [] := K287.trans Kp286 all0
              have K386 : Keep h0 T347.heap [] := K385.trans Kp347 all0
              have K387 : Keep h0 T359.heap [] := K386.trans Kp359 all0
              have C388 : CHr Z own_EL s.vm h0 T347.vm T347.heap := C351.trans C347
              have C389 : CHr Z own_EL s.vm h0 T347.vm T359.heap := C388.trans (CHr.keep K370 sf0 C388.1)
              have Z390 : T347.heap.size ≤ T359.heap.size := Kp359.1
              refine fin T384 _ _ _ (some (.int (1 : Int32))) T347.vm _ X384 hZ347 hS347 (by rw [e384]; exact (Nat.le_trans (Nat.le_refl _) Z390)) (by rw [e384]; exact C389) (fun q => nomatch q) (by decide) (by decide) (by rw [e384]; exact ⟨N384, K387, rfl⟩) _ (own_retN X384 hx (z := (1 : Int32)) (t := .boolean) hret (by simp) (hb hby at_311))
            · exact absurd p355 p278
      · refine go _ _ (fun _ k => XS.ifNo X277.here hx rfl (hb hby at_27) rfl ((if0 _ _).trans (feq hc27_285).1) k) ?_
        show G (T277.setTop (mkF m 30 #[i' p0, i' p1, i' p2, i' p3, .val .null, u', u', u', u', u', u'] []))
        refine go _ _ (fun _ k => XS.iconst X277.here hx rfl (hb hby at_30) k) ?_
        show G (T277.setTop (mkF m 31 #[i' p0, i' p1, i' p2, i' p3, .val .null, u', u', u', u', u', u'] [(.int 1)]))
        refine go _ _ (fun _ k => XS.goto X277.here hx rfl (pc0 := 31) (pc' := 35) rfl (hb hby at_31) (by decide) (by decide) k) ?_
        show G (T277.setTop (mkF m 35 #[i' p0, i' p1, i' p2, i' p3, .val .null, u', u', u', u', u', u'] [(.int 1)]))
        refine go _ _ (fun _ k => XS.iloadN X277.here hx rfl (hb hby at_35) rfl (XS.iconst X277.here hx rfl (hb hby at_36) (XS.iushr X277.here hx rfl (hb hby at_37) rfl (XS.iconst X277.here hx rfl (hb hby at_38) (XS.iand X277.here hx rfl (hb hby at_39) rfl (XS.iconst X277.here hx rfl (hb hby at_40) k)))))) ?_
        show G (T277.setTop (mkF m 41 #[i' p0, i' p1, i' p2, i' p3, .val .null, u', u', u', u', u', u'] [(.int 3), (.int (((p3.toUInt32 >>> ((5 : Int32) &&& 31).toUInt32).toInt32) &&& (3 : Int32))), (.int 1)]))
        refine go _ _ (fun _ k => iremM X277 hx rfl (hb hby at_41) rfl (by decide) k) ?_
        show G (T277.setTop (mkF m 42 #[i' p0, i' p1, i' p2, i' p3, .val .null, u', u', u', u', u', u'] [(.int ((((p3.toUInt32 >>> ((5 : Int32) &&& 31).toUInt32).toInt32) &&& (3 : Int32)) % (3 : Int32))), (.int 1)]))
        refine go _ _ (fun _ k => XS.iloadN X277.here hx rfl (hb hby at_42) rfl k) ?_
        have K392 : Keep h0 T277.heap [] := (Keep.refl h0 []).trans Kp277 all0
        have F393 : Old Z n0 T277.heap := (Xo.keep K392 all0)
        have Z394 : h0.size ≤ T277.heap.size := Kp277.1
        have C395 : CHr Z own_EL s.vm h0 T277.vm T277.heap := C0.trans C277
        obtain ⟨rv391, T391, L391, X391, q391, hZ391, hown391, hS391, C391, st391⟩ := own_stW X277 hx hZ277 (y := (⟨"com/example/naslov/naslov/UriJoinAuthorityPinLaw", "part", "(ZII)Ljava/lang/String;"⟩ : MethodName)) hown277 (ow hw 0 rfl) (ow hw 1 rfl) (ow hw 2 rfl) (ow hw 3 rfl) (by decide) (own_bkH (W := 0) (rm0 l Z a0 hw z0 fm0 gl [] (1 : Int32) ((((p3.toUInt32 >>> ((5 : Int32) &&& 31).toUInt32).toInt32) &&& (3 : Int32)) % (3 : Int32)) p1 T277.heap n0 (Nat.le_trans Z0 Z394) F393) hZ277 (ow hw 3 rfl) (ow hw 2 rfl) (by decide) (by decide) (own_hEL hw) C395.1) rfl hS277 (Nat.le_refl _) (g := (mkF m 43 #[i' p0, i' p1, i' p2, i' p3, .val .null, u', u', u', u', u', u'] [(.int p1), (.int ((((p3.toUInt32 >>> ((5 : Int32) &&& 31).toUInt32).toInt32) &&& (3 : Int32)) % (3 : Int32))), (.int 1)])) rfl (by rw [hml]; rfl) (argsL := [(.int (1 : Int32)), (.int ((((p3.toUInt32 >>> ((5 : Int32) &&& 31).toUInt32).toInt32) &&& (3 : Int32)) % (3 : Int32))), (.int p1)]) (rest := []) rfl (lenOf own_pd41 rfl) rfl (by show 2 * 0 + _ ≤ _; exact Nat.le_of_eq rfl) (hb hby at_43) (by decide) (by decide)
        obtain ⟨Nq391, Kp391, q391⟩ := q391
        have N391 := Fr.app N277 Nq391
        rcases q391 with ⟨rfl, p396⟩ | ⟨b_397, cs_398, rfl, p399, p400, f401, f402⟩
        · refine go _ _ (st391) ?_
          show G (T391.setTop (mkF m 46 #[i' p0, i' p1, i' p2, i' p3, .val .null, u', u', u', u', u', u'] [.null]))
          refine go _ _ (fun _ k => XS.astore X391.here hx rfl (hb hby at_46) rfl rfl (l' := #[i' p0, i' p1, i' p2, i' p3, .val .null, .val .null, u', u', u', u', u']) rfl (XS.iloadN X391.here hx rfl (hb hby at_48) rfl (XS.iconst X391.here hx rfl (hb hby at_49) (XS.iand X391.here hx rfl (hb hby at_50) rfl k)))) ?_
          show G (T391.setTop (mkF m 51 #[i' p0, i' p1, i' p2, i' p3, .val .null, .val .null, u', u', u', u', u'] [(.int (p3 &&& (4 : Int32)))]))
          by_cases hc51_403 : (p3 &&& (4 : Int32)) = (0 : Int32)
          · refine go _ _ (fun _ k => XS.ifYes X391.here hx rfl (pc0 := 51) (pc' := 58) rfl (hb hby at_51) rfl ((if0 _ _).trans (teq hc51_403).1) (by decide) (by decide) k) ?_
            show G (T391.setTop (mkF m 58 #[i' p0, i' p1, i' p2, i' p3, .val .null, .val .null, u', u', u', u', u'] []))
            refine go _ _ (fun _ k => XS.iconst X391.here hx rfl (hb hby at_58) (XS.iloadN X391.here hx rfl (hb hby at_59) rfl (XS.bipush X391.here hx rfl (hb hby at_60) (XS.iushr X391.here hx rfl (hb hby at_62) rfl (XS.iconst X391.here hx rfl (hb hby at_63) (XS.iand X391.here hx rfl (hb hby at_64) rfl k)))))) ?_
            show G (T391.setTop (mkF m 65 #[i' p0, i' p1, i' p2, i' p3, .val .null, .val .null, u', u', u', u', u'] [(.int (((p3.toUInt32 >>> ((7 : Int32) &&& 31).toUInt32).toInt32) &&& (3 : Int32))), (.int 0)]))
            refine go _ _ (fun _ k => XS.iconst X391.here hx rfl (hb hby at_65) k) ?_
            show G (T391.setTop (mkF m 66 #[i' p0, i' p1, i' p2, i' p3, .val .null, .val .null, u', u', u', u', u'] [(.int 3), (.int (((p3.toUInt32 >>> ((7 : Int32) &&& 31).toUInt32).toInt32) &&& (3 : Int32))), (.int 0)]))
            refine go _ _ (fun _ k => iremM X391 hx rfl (hb hby at_66) rfl (by decide) k) ?_
            show G (T391.setTop (mkF m 67 #[i' p0, i' p1, i' p2, i' p3, .val .null, .val .null, u', u', u', u', u'] [(.int ((((p3.toUInt32 >>> ((7 : Int32) &&& 31).toUInt32).toInt32) &&& (3 : Int32)) % (3 : Int32))), (.int 0)]))
            refine go _ _ (fun _ k => XS.iloadN X391.here hx rfl (hb hby at_67) rfl k) ?_
            have K405 : Keep T277.heap T391.heap [] := (Keep.refl T277.heap []).trans Kp391 all0
            have F406 : Old Z n0 T391.heap := (F393.keep K405 all0)
            have Z407 : h0.size ≤ T391.heap.size := Nat.le_trans Z394 Kp391.1
            have C408 : CHr Z own_EL s.vm h0 T391.vm T391.heap := C395.trans C391
            obtain ⟨rv404, T404, L404, X404, q404, hZ404, hown404, hS404, C404, st404⟩ := own_stW X391 hx hZ391 (y := (⟨"com/example/naslov/naslov/UriJoinAuthorityPinLaw", "part", "(ZII)Ljava/lang/String;"⟩ : MethodName)) hown391 (ow hw 0 rfl) (ow hw 1 rfl) (ow hw 2 rfl) (ow hw 3 rfl) (by decide) (own_bkH (W := 0) (rm0 l Z a0 hw z0 fm0 gl [] (0 : Int32) ((((p3.toUInt32 >>> ((7 : Int32) &&& 31).toUInt32).toInt32) &&& (3 : Int32)) % (3 : Int32)) p2 T391.heap n0 (Nat.le_trans Z0 Z407) F406) hZ391 (ow hw 3 rfl) (ow hw 2 rfl) (by decide) (by decide) (own_hEL hw) C408.1) rfl hS391 (Nat.le_refl _) (g := (mkF m 68 #[i' p0, i' p1, i' p2, i' p3, .val .null, .val .null, u', u', u', u', u'] [(.int p2), (.int ((((p3.toUInt32 >>> ((7 : Int32) &&& 31).toUInt32).toInt32) &&& (3 : Int32)) % (3 : Int32))), (.int 0)])) rfl (by rw [hml]; rfl) (argsL := [(.int (0 : Int32)), (.int ((((p3.toUInt32 >>> ((7 : Int32) &&& 31).toUInt32).toInt32) &&& (3 : Int32)) % (3 : Int32))), (.int p2)]) (rest := []) rfl (lenOf own_pd41 rfl) rfl (by show 2 * 0 + _ ≤ _; exact Nat.le_of_eq rfl) (hb hby at_68) (by decide) (by decide)
            obtain ⟨Nq404, Kp404, q404⟩ := q404
            have N404 := Fr.app N391 Nq404
            rcases q404 with ⟨rfl, p409⟩ | ⟨b_410, cs_411, rfl, p412, p413, f414, f415⟩
            · exact absurd rfl p409
            · refine go _ _ (st404) ?_
              show G (T404.setTop (mkF m 71 #[i' p0, i' p1, i' p2, i' p3, .val .null, .val .null, u', u', u', u', u'] [(.ref b_410)]))
              refine go _ _ (fun _ k => XS.astore X404.here hx rfl (hb hby at_71) rfl rfl (l' := #[i' p0, i' p1, i' p2, i' p3, .val .null, .val .null, r' b_410, u', u', u', u']) rfl (XS.aload X404.here hx rfl (hb hby at_73) rfl rfl (XS.aload X404.here hx rfl (hb hby at_75) rfl rfl (XS.aload X404.here hx rfl (hb hby at_77) rfl rfl k)))) ?_
              have Z417 : h0.size ≤ T404.heap.size := Nat.le_trans Z407 Kp404.1
              obtain ⟨rv416, T416, L416, X416, q416, st416⟩ := own_st X404 hx hZ404 (y := (⟨"com/example/naslov/naslov/Uri", "joinAuthority", "(Ljava/lang/String;Ljava/lang/String;Ljava/lang/String;)Ljava/lang/String;"⟩ : MethodName)) hown404 (ow hw 12 rfl) (ow hw 13 rfl) (ow hw 14 rfl) (ow hw 15 rfl) (by decide) (own_bkN (W := 0) (rmJn l Z a0 hw z0 fm0 gl [] .null (.ref b_410) T404.heap n0 (Nat.le_trans Z0 Z417) rfl rfl) hZ404 (ow hw 15 rfl) (ow hw 14 rfl) (by decide) (by decide)) rfl (g := (mkF m 79 #[i' p0, i' p1, i' p2, i' p3, .val .null, .val .null, r' b_410, u', u', u', u'] [(.ref b_410), .null, .null])) rfl (by rw [hml]; rfl) (argsL := [.null, .null, (.ref b_410)]) (rest := []) rfl (lenOf own_pd42 rfl) rfl (by show 2 * 0 + _ ≤ _; exact Nat.le_of_eq rfl) (hb hby at_79) (by decide) (by decide)
              obtain ⟨Nq416, e416, rfl⟩ := q416
              have N416 := Fr.app N404 Nq416
              refine go _ _ (st416) ?_
              show G (T416.setTop (mkF m 82 #[i' p0, i' p1, i' p2, i' p3, .val .null, .val .null, r' b_410, u', u', u', u'] [.null]))
              refine go _ _ (fun _ k => XS.astore X416.here hx rfl (hb hby at_82) rfl rfl (l' := #[i' p0, i' p1, i' p2, i' p3, .val .null, .val .null, r' b_410, .val .null, u', u', u']) rfl (XS.aload X416.here hx rfl (hb hby at_84) rfl rfl k)) ?_
              show G (T416.setTop (mkF m 86 #[i' p0, i' p1, i' p2, i' p3, .val .null, .val .null, r' b_410, .val .null, u', u', u'] [.null]))
              refine go _ _ (fun _ k => XS.ifnonnullNo X416.here hx rfl (hb hby at_86) rfl k) ?_
              show G (T416.setTop (mkF m 89 #[i' p0, i' p1, i' p2, i' p3, .val .null, .val .null, r' b_410, .val .null, u', u', u'] []))
              refine go _ _ (fun _ k => XS.aload X416.here hx rfl (hb hby at_89) rfl rfl k) ?_
              show G (T416.setTop (mkF m 91 #[i' p0, i' p1, i' p2, i' p3, .val .null, .val .null, r' b_410, .val .null, u', u', u'] [.null]))
              refine go _ _ (fun _ k => XS.ifnonnullNo X416.here hx rfl (hb hby at_91) rfl k) ?_
              show G (T416.setTop (mkF m 94 #[i' p0, i' p1, i' p2, i' p3, .val .null, .val .null, r' b_410, .val .null, u', u', u'] []))
              refine go _ _ (fun _ k => XS.iconst X416.here hx rfl (hb hby at_94) k) ?_
              show G (T416.setTop (mkF m 95 #[i' p0, i' p1, i' p2, i' p3, .val .null, .val .null, r' b_410, .val .null, u', u', u'] [(.int 1)]))
              refine go _ _ (fun _ k => XS.goto X416.here hx rfl (pc0 := 95) (pc' := 99) rfl (hb hby at_95) (by decide) (by decide) k) ?_
              show G (T416.setTop (mkF m 99 #[i' p0, i' p1, i' p2, i' p3, .val .null, .val .null, r' b_410, .val .null, u', u', u'] [(.int 1)]))
              have K418 : Keep h0 T391.heap [] := K392.trans Kp391 all0
              have K419 : Keep h0 T404.heap [] := K418.trans Kp404 all0
              have C420 : CHr Z own_EL s.vm h0 T404.vm T404.heap := C408.trans C404
              refine fin T416 _ _ _ (some (.int (1 : Int32))) T404.vm _ X416 hZ404 hS404 (by rw [e416]; exact (Nat.le_refl _)) (by rw [e416]; exact C420) (fun q => nomatch q) (by decide) (by decide) (by rw [e416]; exact ⟨N416, K419, rfl⟩) _ (own_retN X416 hx (z := (1 : Int32)) (t := .boolean) hret (by simp) (hb hby at_99))
          · refine go _ _ (fun _ k => XS.ifNo X391.here hx rfl (hb hby at_51) rfl ((if0 _ _).trans (feq hc51_403).1) k) ?_
            show G (T391.setTop (mkF m 54 #[i' p0, i' p1, i' p2, i' p3, .val .null, .val .null, u', u', u', u', u'] []))
            refine go _ _ (fun _ k => XS.iconst X391.here hx rfl (hb hby at_54) k) ?_
            show G (T391.setTop (mkF m 55 #[i' p0, i' p1, i' p2, i' p3, .val .null, .val .null, u', u', u', u', u'] [(.int 1)]))
            refine go _ _ (fun _ k => XS.goto X391.here hx rfl (pc0 := 55) (pc' := 59) rfl (hb hby at_55) (by decide) (by decide) k) ?_
            show G (T391.setTop (mkF m 59 #[i' p0, i' p1, i' p2, i' p3, .val .null, .val .null, u', u', u', u', u'] [(.int 1)]))
            refine go _ _ (fun _ k => XS.iloadN X391.here hx rfl (hb hby at_59) rfl (XS.bipush X391.here hx rfl (hb hby at_60) (XS.iushr X391.here hx rfl (hb hby at_62) rfl (XS.iconst X391.here hx rfl (hb hby at_63) (XS.iand X391.here hx rfl (hb hby at_64) rfl (XS.iconst X391.here hx rfl (hb hby at_65) k)))))) ?_
            show G (T391.setTop (mkF m 66 #[i' p0, i' p1, i' p2, i' p3, .val .null, .val .null, u', u', u', u', u'] [(.int 3), (.int (((p3.toUInt32 >>> ((7 : Int32) &&& 31).toUInt32).toInt32) &&& (3 : Int32))), (.int 1)]))
            refine go _ _ (fun _ k => iremM X391 hx rfl (hb hby at_66) rfl (by decide) k) ?_
            show G (T391.setTop (mkF m 67 #[i' p0, i' p1, i' p2, i' p3, .val .null, .val .null, u', u', u', u', u'] [(.int ((((p3.toUInt32 >>> ((7 : Int32) &&& 31).toUInt32).toInt32) &&& (3 : Int32)) % (3 : Int32))), (.int 1)]))
            refine go _ _ (fun _ k => XS.iloadN X391.here hx rfl (hb hby at_67) rfl k) ?_
            have K422 : Keep T277.heap T391.heap [] := (Keep.refl T277.heap []).trans Kp391 all0
            have F423 : Old Z n0 T391.heap := (F393.keep K422 all0)
            have Z424 : h0.size ≤ T391.heap.size := Nat.le_trans Z394 Kp391.1
            have C425 : CHr Z own_EL s.vm h0 T391.vm T391.heap := C395.trans C391
            obtain ⟨rv421, T421, L421, X421, q421, hZ421, hown421, hS421, C421, st421⟩ := own_stW X391 hx hZ391 (y := (⟨"com/example/naslov/naslov/UriJoinAuthorityPinLaw", "part", "(ZII)Ljava/lang/String;"⟩ : MethodName)) hown391 (ow hw 0 rfl) (ow hw 1 rfl) (ow hw 2 rfl) (ow hw 3 rfl) (by decide) (own_bkH (W := 0) (rm0 l Z a0 hw z0 fm0 gl [] (1 : Int32) ((((p3.toUInt32 >>> ((7 : Int32) &&& 31).toUInt32).toInt32) &&& (3 : Int32)) % (3 : Int32)) p2 T391.heap n0 (Nat.le_trans Z0 Z424) F423) hZ391 (ow hw 3 rfl) (ow hw 2 rfl) (by decide) (by decide) (own_hEL hw) C425.1) rfl hS391 (Nat.le_refl _) (g := (mkF m 68 #[i' p0, i' p1, i' p2, i' p3, .val .null, .val .null, u', u', u', u', u'] [(.int p2), (.int ((((p3.toUInt32 >>> ((7 : Int32) &&& 31).toUInt32).toInt32) &&& (3 : Int32)) % (3 : Int32))), (.int 1)])) rfl (by rw [hml]; rfl) (argsL := [(.int (1 : Int32)), (.int ((((p3.toUInt32 >>> ((7 : Int32) &&& 31).toUInt32).toInt32) &&& (3 : Int32)) % (3 : Int32))), (.int p2)]) (rest := []) rfl (lenOf own_pd41 rfl) rfl (by show 2 * 0 + _ ≤ _; exact Nat.le_of_eq rfl) (hb hby at_68) (by decide) (by decide)
            obtain ⟨Nq421, Kp421, q421⟩ := q421
            have N421 := Fr.app N391 Nq421
            rcases q421 with ⟨rfl, p426⟩ | ⟨b_427, cs_428, rfl, p429, p430, f431, f432⟩
            · refine go _ _ (st421) ?_
              show G (T421.setTop (mkF m 71 #[i' p0, i' p1, i' p2, i' p3, .val .null, .val .null, u', u', u', u', u'] [.null]))
              refine go _ _ (fun _ k => XS.astore X421.here hx rfl (hb hby at_71) rfl rfl (l' := #[i' p0, i' p1, i' p2, i' p3, .val .null, .val .null, .val .null, u', u', u', u']) rfl (XS.aload X421.here hx rfl (hb hby at_73) rfl rfl (XS.aload X421.here hx rfl (hb hby at_75) rfl rfl (XS.aload X421.here hx rfl (hb hby at_77) rfl rfl k)))) ?_
              have Z434 : h0.size ≤ T421.heap.size := Nat.le_trans Z424 Kp421.1
              obtain ⟨rv433, T433, L433, X433, q433, st433⟩ := own_st X421 hx hZ421 (y := (⟨"com/example/naslov/naslov/Uri", "joinAuthority", "(Ljava/lang/String;Ljava/lang/String;Ljava/lang/String;)Ljava/lang/String;"⟩ : MethodName)) hown421 (ow hw 12 rfl) (ow hw 13 rfl) (ow hw 14 rfl) (ow hw 15 rfl) (by decide) (own_bkN (W := 0) (rmJn l Z a0 hw z0 fm0 gl [] .null .null T421.heap n0 (Nat.le_trans Z0 Z434) rfl rfl) hZ421 (ow hw 15 rfl) (ow hw 14 rfl) (by decide) (by decide)) rfl (g := (mkF m 79 #[i' p0, i' p1, i' p2, i' p3, .val .null, .val .null, .val .null, u', u', u', u'] [.null, .null, .null])) rfl (by rw [hml]; rfl) (argsL := [.null, .null, .null]) (rest := []) rfl (lenOf own_pd42 rfl) rfl (by show 2 * 0 + _ ≤ _; exact Nat.le_of_eq rfl) (hb hby at_79) (by decide) (by decide)
              obtain ⟨Nq433, e433, rfl⟩ := q433
              have N433 := Fr.app N421 Nq433
              refine go _ _ (st433) ?_
              show G (T433.setTop (mkF m 82 #[i' p0, i' p1, i' p2, i' p3, .val .null, .val .null, .val .null, u', u', u', u'] [.null]))
              refine go _ _ (fun _ k => XS.astore X433.here hx rfl (hb hby at_82) rfl rfl (l' := #[i' p0, i' p1, i' p2, i' p3, .val .null, .val .null, .val .null, .val .null, u', u', u']) rfl (XS.aload X433.here hx rfl (hb hby at_84) rfl rfl k)) ?_
              show G (T433.setTop (mkF m 86 #[i' p0, i' p1, i' p2, i' p3, .val .null, .val .null, .val .null, .val .null, u', u', u'] [.null]))
              refine go _ _ (fun _ k => XS.ifnonnullNo X433.here hx rfl (hb hby at_86) rfl k) ?_
              show G (T433.setTop (mkF m 89 #[i' p0, i' p1, i' p2, i' p3, .val .null, .val .null, .val .null, .val .null, u', u', u'] []))
              refine go _ _ (fun _ k => XS.aload X433.here hx rfl (hb hby at_89) rfl rfl k) ?_
              show G (T433.setTop (mkF m 91 #[i' p0, i' p1, i' p2, i' p3, .val .null, .val .null, .val .null, .val .null, u', u', u'] [.null]))
              refine go _ _ (fun _ k => XS.ifnonnullNo X433.here hx rfl (hb hby at_91) rfl k) ?_
              show G (T433.setTop (mkF m 94 #[i' p0, i' p1, i' p2, i' p3, .val .null, .val .null, .val .null, .val .null, u', u', u'] []))
              refine go _ _ (fun _ k => XS.iconst X433.here hx rfl (hb hby at_94) k) ?_
              show G (T433.setTop (mkF m 95 #[i' p0, i' p1, i' p2, i' p3, .val .null, .val .null, .val .null, .val .null, u', u', u'] [(.int 1)]))
              refine go _ _ (fun _ k => XS.goto X433.here hx rfl (pc0 := 95) (pc' := 99) rfl (hb hby at_95) (by decide) (by decide) k) ?_
              show G (T433.setTop (mkF m 99 #[i' p0, i' p1, i' p2, i' p3, .val .null, .val .null, .val .null, .val .null, u', u', u'] [(.int 1)]))
              have K435 : Keep h0 T391.heap [] := K392.trans Kp391 all0
              have K436 : Keep h0 T421.heap [] := K435.trans Kp421 all0
              have C437 : CHr Z own_EL s.vm h0 T421.vm T421.heap := C425.trans C421
              refine fin T433 _ _ _ (some (.int (1 : Int32))) T421.vm _ X433 hZ421 hS421 (by rw [e433]; exact (Nat.le_refl _)) (by rw [e433]; exact C437) (fun q => nomatch q) (by decide) (by decide) (by rw [e433]; exact ⟨N433, K436, rfl⟩) _ (own_retN X433 hx (z := (1 : Int32)) (t := .boolean) hret (by simp) (hb hby at_99))
            · exact absurd p429 p396
        · exact absurd p399 p278
    · exact absurd p281 (by decide)
theorem own_EL_in : ∀ q ∈ own_EL, q ∈ consts_1 := by decide
set_option maxRecDepth 65536 in
set_option maxHeartbeats 40000000 in
theorem comes_1 {Post : Tables → Env → Array Value → State → Outcome → State → Prop} (hpost : ∀ tb e args s v u, (limb_1_1.after args s (.returned v) u = true ∧ limb_1_2.after args s (.returned v) u = true ∧ True) → ReturnedEndW s (.returned v) u (Jvm.fieldLocs frame_1_writes args s ++ Jvm.arrayLocs frame_1_arrays args s ++ Jvm.staticLocs frame_1_statics s) 48 1344 → Post tb e args s (.returned v) u) :
    ArmFor flags0 classFile x code maxLocals ret World_1 tables_1 room_1 Calls_1 rest_1 Pre_1 Post := by
  intro l hfl _ _ p e ha hc hk s m args below hf hA hF happ hP
  obtain ⟨hcalls, hrest, hpre⟩ := hP
  obtain ⟨-, -, -, hnamed, -, -, -, hat⟩ := (Spec.applies_iff hf).mp happ
  obtain ⟨hg, hn⟩ := and_e (Cond.before_iff.mp (show (Jvm.Cond.and given_1 narrow_1).before args s = true from hpre))
  obtain ⟨h1, g0⟩ := and_e hg
  obtain ⟨ga0, g1⟩ := and_e g0
  obtain ⟨ga1, g2⟩ := and_e g1
  obtain ⟨ga2, g3⟩ := and_e g2
  have ga3 := g3
  obtain ⟨w0, w1, w2, w3, rfl⟩ : ∃ w0 w1 w2 w3 : Value, args = #[w0, w1, w2, w3] := by
    have hs : args.size = 4 := by simpa [Cond.value, given_1] using h1
    obtain ⟨L⟩ := args
    match L, hs with
    | [w0, w1, w2, w3], _ => exact ⟨w0, w1, w2, w3, rfl⟩
  have hw := fun d (hd : d ∈ tables_1) => atoms_spec (ws := Jvm.Cond.code x code maxLocals ret :: tables_1) hat d (List.mem_cons_of_mem _ hd)
  obtain ⟨hsets, hown0⟩ := atoms_of _ (rest_1_c_eq ▸ (show rest_1_c.before _ s = true from hrest))
  have hfit : Fit s := fun {y c} hc i hi => by
    obtain ⟨ha, rfl⟩ := Array.getElem?_eq_some_iff.mp hc
    have q := List.all_eq_true.mp ((Array.all_eq_true_iff_forall_mem.mp hF) _ (Array.getElem_mem ha)) i (List.mem_range.mpr hi)
    simpa [Array.getElem?_eq_getElem hi] using q
  obtain ⟨i0, ea0⟩ := is_v ga0
  obtain rfl : w0 = (.int i0) := Option.some.inj ea0
  obtain ⟨i1, ea1⟩ := is_v ga1
  obtain rfl : w1 = (.int i1) := Option.some.inj ea1
  obtain ⟨i2, ea2⟩ := is_v ga2
  obtain rfl : w2 = (.int i2) := Option.some.inj ea2
  obtain ⟨i3, ea3⟩ := is_v ga3
  obtain rfl : w3 = (.int i3) := Option.some.inj ea3
  have n3 := not_v (Cond.before_iff.mp (hsets _ (List.mem_of_getElem? (i := 2) rfl)))
  obtain ⟨iz, ez⟩ := is_v (Cond.before_iff.mp (hsets _ (List.mem_of_getElem? (i := 1) rfl)))
  have S8 : Sta s s.heap "java/lang/String" "COMPACT_STRINGS" "Z" (.int iz) := Sta.start ez (Or.inl (hsets _ (List.mem_of_getElem? (i := 0) rfl)))
  have c13 : ¬ (iz = (0 : Int32)) := gotF (Cond.eq_ints ez (Term.int_eval (0))) n3
  obtain ⟨v9, e10, r11⟩ := isR_v (Cond.before_iff.mp (hsets _ (List.mem_of_getElem? (i := 8) rfl)))
  have S12 : Sta s s.heap "jdk/internal/util/Preconditions" "SIOOBE_FORMATTER" "Ljava/util/function/BiFunction;" v9 := Sta.start e10 (Or.inl (hsets _ (List.mem_of_getElem? (i := 7) rfl)))
  have S_ad : Sta s s.heap "java/lang/StringUTF16" "$assertionsDisabled" "Z" (.int (1 : Int32)) := Sta.start (own_sev (hsets _ (List.mem_of_getElem? (i := 12) rfl))) (Or.inl (hsets _ (List.mem_of_getElem? (i := 11) rfl)))
  have S_hi : Sta s s.heap "java/lang/StringUTF16" "HI_BYTE_SHIFT" "I" (.int (0 : Int32)) := Sta.start (own_sev (hsets _ (List.mem_of_getElem? (i := 15) rfl))) (Or.inl (hsets _ (List.mem_of_getElem? (i := 14) rfl)))
  have S_lo : Sta s s.heap "java/lang/StringUTF16" "LO_BYTE_SHIFT" "I" (.int (8 : Int32)) := Sta.start (own_sev (hsets _ (List.mem_of_getElem? (i := 18) rfl))) (Or.inl (hsets _ (List.mem_of_getElem? (i := 17) rfl)))
  have CHv0 : CHv s own_EL s.vm s.heap := CHv.start (own_hEL hw) (fun q hq => hcalls.1 q (own_EL_in q hq)) (hsets _ (List.mem_of_getElem? (i := 2) rfl)) (ow hw 7 rfl) (ow hw 6 rfl)
  obtain ⟨n, o, h1, h2, h3, v, L, rfl, ⟨N, -, q⟩, -, hq⟩ := rmLaw l s _ hw iz v9 ⟨S8, c13, S12, r11, S_ad, S_hi, S_lo⟩ tables_1 i0 i1 i2 i3 s.heap s.heap.size (Nat.le_refl _) (Old.start s) p e ha hc hk s m _ below hf ((Spec.applies_iff_loose hf).mp happ).1 ⟨rfl, State.Warmed39.refl s, rfl, CHv0⟩ trivial
  subst q
  refine ⟨n, _, h1, h2, h3, hpost _ _ _ _ _ _ ⟨Cond.after_iff.mpr rfl, Cond.after_iff.mpr (eq_i res_at (Term.int_eval (1)) rfl), trivial⟩ ⟨hq.1, hq.2.1, hq.2.2.1, (hq.2.2.2.sift fun y hy => Or.inr (N y hy)).mono (by decide) (by decide)⟩⟩
theorem main_1_1 : Claimed_1_1 := comes_1 fun _ _ _ _ _ _ h hF => ⟨h.1, hF⟩
theorem main_1_2 : Claimed_1_2 := comes_1 fun _ _ _ _ _ _ h hF => ⟨h.2.1, hF⟩
end Jvm.Pilot.@@N@@
namespace Jvm.Pilot.@@N@@
open Jvm Jvm.ClassFile Sem Op Lib Jvm.Free Jvm.Stand Jvm.Pilot.@@N@@.Jvm.D
/-! MADE BY PROGRAM (witnessworld.py) out of the Statement's table words and the real class files: 26 classes; the members and pool entries that the words name. The judged class is class 1, her method 1. -/
namespace start1
open Jvm.ClassFile
def u (s : String) : CpInfo := .utf8 (stringToUtf16 s)
/-- a pool by its gaps: so many unusable entries, then the entry; so many at the end -/
def gap : Nat → List CpInfo → List CpInfo
  | 0, r => r
  | n + 1, r => .unusable :: gap n r
def poolList (es : List (Nat × CpInfo)) (last : Nat) : List CpInfo := es.foldr (fun e r => gap e.1 (e.2 :: r)) (gap last [])
def pool (es : List (Nat × CpInfo)) (last : Nat) : Array CpInfo := ⟨poolList es last⟩
def fileOf (pool : Array CpInfo) (this : Nat) (attrs : Array Attribute := #[]) (ms : Array MethodInfo := #[]) (fl : Nat := 33) (sup : Nat := 0) (ifs : Array Nat := #[]) (fds : Array FieldInfo := #[]) : ClassFile where
  minorVersion := 0
  majorVersion := 65
  constantPool := pool
  accessFlags := fl
  thisClass := this
  superClass := sup
  interfaces := ifs
  fields := fds
  methods := ms
  attributes := attrs
def plain (name : String) (sup : Option ClassId) : Class where
  name := name
  kind := .ordinary
  loader := none
  accessFlags := 33
  super := sup
  interfaces := #[]
  cf := none
  fields := #[]
  methods := #[]
  instanceTypes := #[]
  staticTypes := #[]
  resolved := #[]
  callSites := []
  init := .initialized
  statics := none
  mirror := none

def pool0 : Array CpInfo := pool [(5, u "<init>"), (0, u "()V"), (1, .class_ 10), (1, u "java/lang/Object")] 113

def k0c0 : Code := { maxStack := 0, maxLocals := 1, code := object_method_1_code, exceptionTable := #[], attributes := #[] }
def k0m0 : Method := { name := "<init>", desc := "()V", sig := { parameters := [], returnType := none }, accessFlags := 1, code := some k0c0 }
/-- java/lang/Object -/
def k0 : Class := { plain "java/lang/Object" none with
  accessFlags := 33
  interfaces := #[]
  cf := some (fileOf pool0 8 #[] #[{ accessFlags := 1, nameIndex := 5, descriptorIndex := 6, attributes := #[] }] 33 0 #[] #[])
  fields := #[]
  methods := #[k0m0]
  instanceTypes := #[]
  staticTypes := #[]
  resolved := Array.replicate 124 none
  statics := none }

def pool1 : Array CpInfo := pool [(2, .class_ 4), (1, u "java/lang/Object"), (0, u "<init>"), (0, u "()V"), (0, .methodref 8 9), (0, .class_ 10), (0, .nameAndType 11 12), (0, u "com/example/naslov/naslov/UriJoinAuthorityPinLaw"), (0, u "part"), (0, u "(ZII)Ljava/lang/String;"), (0, .methodref 14 15), (0, .class_ 16), (0, .nameAndType 17 18), (0, u "com/example/naslov/naslov/Uri"), (0, u "joinAuthority"), (0, u "(Ljava/lang/String;Ljava/lang/String;Ljava/lang/String;)Ljava/lang/String;"), (0, .methodref 20 21), (0, .class_ 22), (0, .nameAndType 23 24), (0, u "java/lang/String"), (0, u "length"), (0, u "()I"), (0, .methodref 8 26), (0, .nameAndType 27 28), (0, u "at"), (0, u "(Ljava/lang/String;IILjava/lang/String;Ljava/lang/String;Ljava/lang/String;)Z"), (0, .string 30), (0, u ""), (0, .methodref 20 32), (0, .nameAndType 33 34), (0, u "valueOf"), (0, u "(C)Ljava/lang/String;"), (0, .methodref 20 36), (0, .nameAndType 5 37), (0, u "([C)V"), (0, .methodref 20 39), (0, .nameAndType 40 41), (0, u "charAt"), (0, u "(I)C"), (0, .methodref 8 43), (0, .nameAndType 44 45), (0, u "expected"), (0, u "(ILjava/lang/String;Ljava/lang/String;Ljava/lang/String;)C"), (2, u "law"), (0, u "(IIII)Z")] 3

def k1m0 : Method := { name := "<init>", desc := "()V", sig := { parameters := [], returnType := none }, accessFlags := 1, code := none }
def k1c1 : Code := { maxStack := 6, maxLocals := 11, code := code, exceptionTable := #[], attributes := #[] }
def k1m1 : Method := { name := "law", desc := "(IIII)Z", sig := { parameters := [.int, .int, .int, .int], returnType := some .boolean }, accessFlags := 9, code := some k1c1 }
def k1c2 : Code := { maxStack := 6, maxLocals := 5, code := method_3_code, exceptionTable := #[], attributes := #[] }
def k1m2 : Method := { name := "part", desc := "(ZII)Ljava/lang/String;", sig := { parameters := [.boolean, .int, .int], returnType := some (.object "java/lang/String") }, accessFlags := 10, code := some k1c2 }
def k1c3 : Code := { maxStack := 5, maxLocals := 6, code := method_4_code, exceptionTable := #[], attributes := #[] }
def k1m3 : Method := { name := "at", desc := "(Ljava/lang/String;IILjava/lang/String;Ljava/lang/String;Ljava/lang/String;)Z", sig := { parameters := [(.object "java/lang/String"), .int, .int, (.object "java/lang/String"), (.object "java/lang/String"), (.object "java/lang/String")], returnType := some .boolean }, accessFlags := 10, code := some k1c3 }
def k1c4 : Code := { maxStack := 3, maxLocals := 5, code := method_5_code, exceptionTable := #[], attributes := #[] }
def k1m4 : Method := { name := "expected", desc := "(ILjava/lang/String;Ljava/lang/String;Ljava/lang/String;)C", sig := { parameters := [.int, (.object "java/lang/String"), (.object "java/lang/String"), (.object "java/lang/String")], returnType := some .char }, accessFlags := 10, code := some k1c4 }
/-- com/example/naslov/naslov/UriJoinAuthorityPinLaw -/
def k1 : Class := { plain "com/example/naslov/naslov/UriJoinAuthorityPinLaw" (some 0) with
  accessFlags := 49
  interfaces := #[]
  cf := some (fileOf pool1 8 #[] #[{ accessFlags := 1, nameIndex := 5, descriptorIndex := 6, attributes := #[] }, { accessFlags := 9, nameIndex := 48, descriptorIndex := 49, attributes := #[] }, { accessFlags := 10, nameIndex := 11, descriptorIndex := 12, attributes := #[] }, { accessFlags := 10, nameIndex := 27, descriptorIndex := 28, attributes := #[] }, { accessFlags := 10, nameIndex := 44, descriptorIndex := 45, attributes := #[] }] 49 2 #[] #[])
  fields := #[]
  methods := #[k1m0, k1m1, k1m2, k1m3, k1m4]
  instanceTypes := #[]
  staticTypes := #[]
  resolved := Array.replicate 53 none
  statics := none }

def pool2 : Array CpInfo := pool [(1, .class_ 2), (0, u "java/io/Serializable"), (0, .class_ 4), (0, u "java/lang/Object")] 2

/-- java/io/Serializable -/
def k2 : Class := { plain "java/io/Serializable" (some 0) with
  accessFlags := 1537
  interfaces := #[]
  cf := some (fileOf pool2 1 #[] #[] 1537 3 #[] #[])
  fields := #[]
  methods := #[]
  instanceTypes := #[]
  staticTypes := #[]
  resolved := Array.replicate 7 none
  statics := none }

def pool3 : Array CpInfo := pool [(1, .class_ 2), (0, u "java/lang/Comparable"), (0, .class_ 4), (0, u "java/lang/Object")] 7

/-- java/lang/Comparable -/
def k3 : Class := { plain "java/lang/Comparable" (some 0) with
  accessFlags := 1537
  interfaces := #[]
  cf := some (fileOf pool3 1 #[] #[] 1537 3 #[] #[])
  fields := #[]
  methods := #[]
  instanceTypes := #[]
  staticTypes := #[]
  resolved := Array.replicate 12 none
  statics := none }

def pool4 : Array CpInfo := pool [(2, .class_ 4), (1, u "java/lang/CharSequence"), (42, .class_ 48), (0, u "java/lang/CharSequence$1CodePointIterator"), (10, .class_ 60), (0, u "java/lang/CharSequence$1CharIterator"), (5, .class_ 67), (0, u "java/lang/Object")] 63

/-- java/lang/CharSequence -/
def k4 : Class := { plain "java/lang/CharSequence" (some 0) with
  accessFlags := 1537
  interfaces := #[]
  cf := some (fileOf pool4 2 #[.nestMembers #[47, 59]] #[] 1537 66 #[] #[])
  fields := #[]
  methods := #[]
  instanceTypes := #[]
  staticTypes := #[]
  resolved := Array.replicate 131 none
  statics := none }

def pool5 : Array CpInfo := pool [(1, .class_ 2), (0, u "java/lang/constant/Constable"), (0, .class_ 4), (0, u "java/lang/Object")] 6

/-- java/lang/constant/Constable -/
def k5 : Class := { plain "java/lang/constant/Constable" (some 0) with
  accessFlags := 1537
  interfaces := #[]
  cf := some (fileOf pool5 1 #[] #[] 1537 3 #[] #[])
  fields := #[]
  methods := #[]
  instanceTypes := #[]
  staticTypes := #[]
  resolved := Array.replicate 11 none
  statics := none }

def pool6 : Array CpInfo := pool [(1, .class_ 2), (0, u "java/lang/constant/ConstantDesc"), (0, .class_ 4), (0, u "java/lang/Object")] 32

/-- java/lang/constant/ConstantDesc -/
def k6 : Class := { plain "java/lang/constant/ConstantDesc" (some 0) with
  accessFlags := 1537
  interfaces := #[]
  cf := some (fileOf pool6 1 #[] #[] 1537 3 #[] #[])
  fields := #[]
  methods := #[]
  instanceTypes := #[]
  staticTypes := #[]
  resolved := Array.replicate 37 none
  statics := none }

def pool7 : Array CpInfo := pool [(1, .methodref 2 3), (0, .class_ 4), (0, .nameAndType 5 6), (0, u "java/lang/Object"), (0, u "<init>"), (0, u "()V"), (2, .fieldref 10 11), (0, .class_ 12), (0, .nameAndType 13 14), (0, u "java/lang/String"), (0, u "value"), (0, u "[B"), (0, .fieldref 10 16), (0, .nameAndType 17 18), (0, u "coder"), (0, u "B"), (2, u "hash"), (0, u "I"), (2, u "hashIsZero"), (0, u "Z"), (0, .methodref 10 28), (0, .nameAndType 5 29), (0, u "([CIILjava/lang/Void;)V"), (6, u "checkBoundsOffCount"), (0, u "(III)I"), (0, .fieldref 10 39), (0, .nameAndType 40 26), (0, u "COMPACT_STRINGS"), (1, .class_ 44), (1, u "java/lang/StringUTF16"), (0, u "compress"), (1, .methodref 42 48), (0, .nameAndType 49 50), (0, u "coderFromArrayLen"), (0, u "([BI)B"), (2, u "toBytes"), (0, .methodref 55 56), (0, .class_ 57), (0, .nameAndType 58 59), (0, u "java/util/Arrays"), (0, u "copyOfRange"), (0, u "([BII)[B"), (46, .methodref 107 108), (0, .class_ 109), (0, .nameAndType 110 111), (0, u "java/lang/StringLatin1"), (0, u "inflate"), (0, u "([BI[BII)V"), (30, u "()Z"), (34, .methodref 42 178), (0, .nameAndType 45 179), (0, u "([CII)[B"), (13, .class_ 195), (1, u "java/lang/System"), (13, .methodref 10 210), (0, .nameAndType 5 211), (0, u "([BB)V"), (0, .methodref 193 213), (0, .nameAndType 214 215), (0, u "arraycopy"), (0, u "(Ljava/lang/Object;ILjava/lang/Object;II)V"), (118, u "()I"), (0, .methodref 10 336), (0, .nameAndType 17 337), (0, u "()B"), (2, u "()[B"), (22, u "([BI)C"), (5, u "(C)Z"), (21, u "(II)V"), (35, u "(I)C"), (61, .methodref 10 490), (0, .nameAndType 5 491), (0, u "(Ljava/lang/AbstractStringBuilder;Ljava/lang/Void;)V"), (0, .methodref 10 493), (0, .nameAndType 494 142), (0, u "isLatin1"), (0, .methodref 107 496), (0, .nameAndType 497 363), (0, u "charAt"), (0, .methodref 42 496), (2, u "checkIndex"), (4, .nameAndType 507 334), (0, u "length"), (24, u "getBytes"), (16, .methodref 550 506), (0, .class_ 551), (0, u "java/lang/AbstractStringBuilder"), (0, .methodref 550 553), (0, .nameAndType 554 340), (0, u "getValue"), (20, .class_ 576), (0, u "java/lang/CharSequence"), (22, u "CASE_INSENSITIVE_ORDER"), (0, u "Ljava/util/Comparator;"), (181, u "valueOf"), (0, u "(C)Ljava/lang/String;"), (37, u "([BIB)V"), (188, u "([C)V"), (4, .methodref 107 1016), (0, .nameAndType 1017 369), (0, u "canEncode"), (0, .methodref 107 1019), (0, .nameAndType 53 1020), (0, u "(C)[B"), (0, .methodref 42 1019), (25, .methodref 550 493), (0, .fieldref 550 1049), (0, .nameAndType 1050 26), (0, u "maybeLatin1"), (2, .fieldref 1054 1055), (0, .class_ 1056), (0, .nameAndType 1057 1058), (0, u "jdk/internal/util/Preconditions"), (0, u "SIOOBE_FORMATTER"), (0, u "Ljava/util/function/BiFunction;"), (0, .methodref 1054 1060), (0, .nameAndType 501 1061), (0, u "(IILjava/util/function/BiFunction;)I"), (2, u "(IIILjava/util/function/BiFunction;)I"), (0, .methodref 1054 1066), (0, .nameAndType 1067 1064), (0, u "checkFromIndexSize"), (33, u "serialPersistentFields"), (0, u "[Ljava/io/ObjectStreamField;"), (0, .class_ 1104), (0, u "java/lang/String$CaseInsensitiveComparator"), (1, .class_ 1107), (0, u "java/io/Serializable"), (0, .class_ 1109), (0, u "java/lang/Comparable"), (0, .class_ 1111), (0, u "java/lang/constant/Constable"), (0, .class_ 1113), (0, u "java/lang/constant/ConstantDesc"), (2, u "serialVersionUID"), (0, u "J"), (3, u "REPL"), (0, u "C"), (2, u "LATIN1"), (1, u "UTF16"), (105, u "(Ljava/lang/StringBuilder;)V")] 217

def k7m0 : Method := { name := "<init>", desc := "()V", sig := { parameters := [], returnType := none }, accessFlags := 1, code := none }
def k7c1 : Code := { maxStack := 5, maxLocals := 2, code := jdk_42_method_3_code, exceptionTable := #[], attributes := #[] }
def k7m1 : Method := { name := "<init>", desc := "([C)V", sig := { parameters := [(.array .char)], returnType := none }, accessFlags := 1, code := some k7c1 }
def k7c2 : Code := { maxStack := 3, maxLocals := 2, code := jdk_42_method_53_code, exceptionTable := #[], attributes := #[] }
def k7m2 : Method := { name := "<init>", desc := "(Ljava/lang/StringBuilder;)V", sig := { parameters := [(.object "java/lang/StringBuilder")], returnType := none }, accessFlags := 1, code := some k7c2 }
def k7c3 : Code := { maxStack := 2, maxLocals := 1, code := jdk_42_method_54_code, exceptionTable := #[], attributes := #[] }
def k7m3 : Method := { name := "length", desc := "()I", sig := { parameters := [], returnType := some .int }, accessFlags := 1, code := some k7c3 }
def k7c4 : Code := { maxStack := 2, maxLocals := 2, code := jdk_42_method_56_code, exceptionTable := #[], attributes := #[] }
def k7m4 : Method := { name := "charAt", desc := "(I)C", sig := { parameters := [.int], returnType := some .char }, accessFlags := 1, code := some k7c4 }
def k7c5 : Code := { maxStack := 4, maxLocals := 1, code := jdk_42_method_139_code, exceptionTable := #[], attributes := #[] }
def k7m5 : Method := { name := "valueOf", desc := "(C)Ljava/lang/String;", sig := { parameters := [.char], returnType := some (.object "java/lang/String") }, accessFlags := 9, code := some k7c5 }
def k7c6 : Code := { maxStack := 5, maxLocals := 4, code := jdk_42_method_147_code, exceptionTable := #[], attributes := #[] }
def k7m6 : Method := { name := "getBytes", desc := "([BIB)V", sig := { parameters := [(.array .byte), .int, .byte], returnType := none }, accessFlags := 0, code := some k7c6 }
def k7c7 : Code := { maxStack := 4, maxLocals := 6, code := jdk_42_method_149_code, exceptionTable := #[], attributes := #[] }
def k7m7 : Method := { name := "<init>", desc := "([CIILjava/lang/Void;)V", sig := { parameters := [(.array .char), .int, .int, (.object "java/lang/Void")], returnType := none }, accessFlags := 2, code := some k7c7 }
def k7c8 : Code := { maxStack := 5, maxLocals := 5, code := jdk_42_method_150_code, exceptionTable := #[], attributes := #[] }
def k7m8 : Method := { name := "<init>", desc := "(Ljava/lang/AbstractStringBuilder;Ljava/lang/Void;)V", sig := { parameters := [(.object "java/lang/AbstractStringBuilder"), (.object "java/lang/Void")], returnType := none }, accessFlags := 0, code := some k7c8 }
def k7c9 : Code := { maxStack := 2, maxLocals := 3, code := jdk_42_method_151_code, exceptionTable := #[], attributes := #[] }
def k7m9 : Method := { name := "<init>", desc := "([BB)V", sig := { parameters := [(.array .byte), .byte], returnType := none }, accessFlags := 0, code := some k7c9 }
def k7c10 : Code := { maxStack := 1, maxLocals := 1, code := jdk_42_method_152_code, exceptionTable := #[], attributes := #[] }
def k7m10 : Method := { name := "coder", desc := "()B", sig := { parameters := [], returnType := some .byte }, accessFlags := 0, code := some k7c10 }
def k7c11 : Code := { maxStack := 1, maxLocals := 1, code := jdk_42_method_154_code, exceptionTable := #[], attributes := #[] }
def k7m11 : Method := { name := "isLatin1", desc := "()Z", sig := { parameters := [], returnType := some .boolean }, accessFlags := 0, code := some k7c11 }
def k7c12 : Code := { maxStack := 3, maxLocals := 2, code := jdk_42_method_155_code, exceptionTable := #[], attributes := #[] }
def k7m12 : Method := { name := "checkIndex", desc := "(II)V", sig := { parameters := [.int, .int], returnType := none }, accessFlags := 8, code := some k7c12 }
def k7c13 : Code := { maxStack := 4, maxLocals := 3, code := jdk_42_method_157_code, exceptionTable := #[], attributes := #[] }
def k7m13 : Method := { name := "checkBoundsOffCount", desc := "(III)I", sig := { parameters := [.int, .int, .int], returnType := some .int }, accessFlags := 8, code := some k7c13 }
/-- java/lang/String -/
def k7 : Class := { plain "java/lang/String" (some 0) with
  accessFlags := 49
  interfaces := #[2, 3, 4, 5, 6]
  cf := some (fileOf pool7 10 #[.nestMembers #[1103]] #[{ accessFlags := 1, nameIndex := 5, descriptorIndex := 6, attributes := #[] }, { accessFlags := 1, nameIndex := 5, descriptorIndex := 1010, attributes := #[] }, { accessFlags := 1, nameIndex := 5, descriptorIndex := 1233, attributes := #[] }, { accessFlags := 1, nameIndex := 507, descriptorIndex := 334, attributes := #[] }, { accessFlags := 1, nameIndex := 497, descriptorIndex := 427, attributes := #[] }, { accessFlags := 9, nameIndex := 782, descriptorIndex := 783, attributes := #[] }, { accessFlags := 0, nameIndex := 532, descriptorIndex := 821, attributes := #[] }, { accessFlags := 2, nameIndex := 5, descriptorIndex := 29, attributes := #[] }, { accessFlags := 0, nameIndex := 5, descriptorIndex := 491, attributes := #[] }, { accessFlags := 0, nameIndex := 5, descriptorIndex := 211, attributes := #[] }, { accessFlags := 0, nameIndex := 17, descriptorIndex := 337, attributes := #[] }, { accessFlags := 0, nameIndex := 494, descriptorIndex := 142, attributes := #[] }, { accessFlags := 8, nameIndex := 501, descriptorIndex := 391, attributes := #[] }, { accessFlags := 8, nameIndex := 36, descriptorIndex := 37, attributes := #[] }] 49 2 #[1106, 1108, 575, 1110, 1112] #[{ accessFlags := 18, nameIndex := 13, descriptorIndex := 14, attributes := #[] }, { accessFlags := 18, nameIndex := 17, descriptorIndex := 18, attributes := #[] }, { accessFlags := 2, nameIndex := 21, descriptorIndex := 22, attributes := #[] }, { accessFlags := 2, nameIndex := 25, descriptorIndex := 26, attributes := #[] }, { accessFlags := 26, nameIndex := 1116, descriptorIndex := 1117, attributes := #[] }, { accessFlags := 24, nameIndex := 40, descriptorIndex := 26, attributes := #[] }, { accessFlags := 26, nameIndex := 1101, descriptorIndex := 1102, attributes := #[] }, { accessFlags := 26, nameIndex := 1121, descriptorIndex := 1122, attributes := #[] }, { accessFlags := 25, nameIndex := 599, descriptorIndex := 600, attributes := #[] }, { accessFlags := 24, nameIndex := 1125, descriptorIndex := 18, attributes := #[] }, { accessFlags := 24, nameIndex := 1127, descriptorIndex := 18, attributes := #[] }])
  fields := #[{ name := "value", type := (.array .byte), accessFlags := 18, slot := 0, constantValue := 0 }, { name := "coder", type := .byte, accessFlags := 18, slot := 1, constantValue := 0 }, { name := "hash", type := .int, accessFlags := 2, slot := 2, constantValue := 0 }, { name := "hashIsZero", type := .boolean, accessFlags := 2, slot := 3, constantValue := 0 }, { name := "serialVersionUID", type := .long, accessFlags := 26, slot := 0, constantValue := 0 }, { name := "COMPACT_STRINGS", type := .boolean, accessFlags := 24, slot := 1, constantValue := 0 }, { name := "serialPersistentFields", type := (.array (.object "java/io/ObjectStreamField")), accessFlags := 26, slot := 2, constantValue := 0 }, { name := "REPL", type := .char, accessFlags := 26, slot := 3, constantValue := 0 }, { name := "CASE_INSENSITIVE_ORDER", type := (.object "java/util/Comparator"), accessFlags := 25, slot := 4, constantValue := 0 }, { name := "LATIN1", type := .byte, accessFlags := 24, slot := 5, constantValue := 0 }, { name := "UTF16", type := .byte, accessFlags := 24, slot := 6, constantValue := 0 }]
  methods := #[k7m0, k7m1, k7m2, k7m3, k7m4, k7m5, k7m6, k7m7, k7m8, k7m9, k7m10, k7m11, k7m12, k7m13]
  instanceTypes := #[(.array .byte), .byte, .int, .boolean]
  staticTypes := #[.long, .boolean, (.array (.object "java/io/ObjectStreamField")), .char, (.object "java/util/Comparator"), .byte, .byte]
  resolved := Array.replicate 1451 none
  statics := some 0 }

def pool8 : Array CpInfo := pool [(2, .class_ 4), (1, u "com/example/naslov/naslov/Uri"), (4, u "<init>"), (2, .class_ 14), (0, .nameAndType 9 15), (0, u "java/lang/Object"), (0, u "()V"), (2, u "text"), (0, u "Ljava/lang/String;"), (2, u "scheme"), (2, u "authority"), (1, u "path"), (12, u "query"), (2, u "fragment"), (26, u "userInfo"), (2, u "host"), (2, u "port"), (3, .nameAndType 82 83), (1, u "toString"), (0, u "()Ljava/lang/String;"), (123, .class_ 208), (0, u "java/lang/StringBuilder"), (0, .methodref 207 13), (0, .methodref 207 211), (0, .nameAndType 212 213), (0, u "append"), (0, u "(Ljava/lang/String;)Ljava/lang/StringBuilder;"), (0, .methodref 207 215), (0, .nameAndType 212 216), (0, u "(C)Ljava/lang/StringBuilder;"), (0, .methodref 207 80), (22, u "joinAuthority"), (0, u "(Ljava/lang/String;Ljava/lang/String;Ljava/lang/String;)Ljava/lang/String;")] 30

def k8c0 : Code := { maxStack := 2, maxLocals := 4, code := prog_10_method_28_code, exceptionTable := #[], attributes := #[] }
def k8m0 : Method := { name := "joinAuthority", desc := "(Ljava/lang/String;Ljava/lang/String;Ljava/lang/String;)Ljava/lang/String;", sig := { parameters := [(.object "java/lang/String"), (.object "java/lang/String"), (.object "java/lang/String")], returnType := some (.object "java/lang/String") }, accessFlags := 8, code := some k8c0 }
/-- com/example/naslov/naslov/Uri -/
def k8 : Class := { plain "com/example/naslov/naslov/Uri" (some 0) with
  accessFlags := 33
  interfaces := #[]
  cf := some (fileOf pool8 2 #[] #[{ accessFlags := 8, nameIndex := 240, descriptorIndex := 241, attributes := #[] }] 33 12 #[] #[{ accessFlags := 18, nameIndex := 22, descriptorIndex := 19, attributes := #[] }, { accessFlags := 18, nameIndex := 25, descriptorIndex := 19, attributes := #[] }, { accessFlags := 18, nameIndex := 70, descriptorIndex := 19, attributes := #[] }, { accessFlags := 18, nameIndex := 73, descriptorIndex := 19, attributes := #[] }, { accessFlags := 18, nameIndex := 76, descriptorIndex := 19, attributes := #[] }, { accessFlags := 18, nameIndex := 27, descriptorIndex := 19, attributes := #[] }, { accessFlags := 18, nameIndex := 40, descriptorIndex := 19, attributes := #[] }, { accessFlags := 18, nameIndex := 43, descriptorIndex := 19, attributes := #[] }, { accessFlags := 18, nameIndex := 18, descriptorIndex := 19, attributes := #[] }])
  fields := #[{ name := "scheme", type := (.object "java/lang/String"), accessFlags := 18, slot := 0, constantValue := 0 }, { name := "authority", type := (.object "java/lang/String"), accessFlags := 18, slot := 1, constantValue := 0 }, { name := "userInfo", type := (.object "java/lang/String"), accessFlags := 18, slot := 2, constantValue := 0 }, { name := "host", type := (.object "java/lang/String"), accessFlags := 18, slot := 3, constantValue := 0 }, { name := "port", type := (.object "java/lang/String"), accessFlags := 18, slot := 4, constantValue := 0 }, { name := "path", type := (.object "java/lang/String"), accessFlags := 18, slot := 5, constantValue := 0 }, { name := "query", type := (.object "java/lang/String"), accessFlags := 18, slot := 6, constantValue := 0 }, { name := "fragment", type := (.object "java/lang/String"), accessFlags := 18, slot := 7, constantValue := 0 }, { name := "text", type := (.object "java/lang/String"), accessFlags := 18, slot := 8, constantValue := 0 }]
  methods := #[k8m0]
  instanceTypes := #[(.object "java/lang/String"), (.object "java/lang/String"), (.object "java/lang/String"), (.object "java/lang/String"), (.object "java/lang/String"), (.object "java/lang/String"), (.object "java/lang/String"), (.object "java/lang/String"), (.object "java/lang/String")]
  staticTypes := #[]
  resolved := Array.replicate 272 none
  statics := none }

def pool9 : Array CpInfo := pool [(1, .class_ 2), (0, u "java/lang/Appendable"), (0, .class_ 4), (0, u "java/lang/Object")] 9

/-- java/lang/Appendable -/
def k9 : Class := { plain "java/lang/Appendable" (some 0) with
  accessFlags := 1537
  interfaces := #[]
  cf := some (fileOf pool9 1 #[] #[] 1537 3 #[] #[])
  fields := #[]
  methods := #[]
  instanceTypes := #[]
  staticTypes := #[]
  resolved := Array.replicate 14 none
  statics := none }

def pool10 : Array CpInfo := pool [(1, .class_ 2), (0, u "java/lang/String"), (0, .methodref 4 5), (0, .class_ 6), (0, .nameAndType 7 8), (0, u "java/lang/Object"), (0, u "<init>"), (0, u "()V"), (1, .class_ 12), (1, u "java/lang/AbstractStringBuilder"), (0, u "EMPTYVALUE"), (0, u "[B"), (0, .fieldref 10 16), (0, .nameAndType 17 14), (0, u "value"), (0, .fieldref 1 19), (0, .nameAndType 20 21), (0, u "COMPACT_STRINGS"), (0, u "Z"), (0, .fieldref 10 23), (0, .nameAndType 24 25), (0, u "coder"), (0, u "B"), (0, .methodref 27 28), (0, .class_ 29), (0, .nameAndType 30 31), (0, u "java/lang/StringUTF16"), (0, u "newBytesFor"), (0, u "(I)[B"), (0, .methodref 1 33), (0, .nameAndType 34 35), (0, u "length"), (0, u "()I"), (4, .methodref 1 41), (0, .nameAndType 24 42), (0, u "()B"), (2, u "append"), (0, u "(Ljava/lang/String;)Ljava/lang/AbstractStringBuilder;"), (1, .class_ 49), (0, u "java/lang/CharSequence"), (19, u "(Ljava/lang/String;)V"), (5, u "maybeLatin1"), (3, .fieldref 10 80), (0, .nameAndType 81 82), (0, u "count"), (0, u "I"), (0, .methodref 10 84), (0, .nameAndType 85 86), (0, u "isLatin1"), (0, u "()Z"), (1, .class_ 90), (1, u "java/lang/StringLatin1"), (9, .methodref 10 101), (0, .nameAndType 102 103), (0, u "ensureCapacityInternal"), (0, u "(I)V"), (21, .methodref 88 126), (0, .nameAndType 127 128), (0, u "inflate"), (0, u "([BI[BII)V"), (7, u "([BII)V"), (54, .methodref 88 192), (0, .nameAndType 193 194), (0, u "canEncode"), (0, u "(C)Z"), (0, .methodref 10 196), (0, .nameAndType 127 8), (0, .methodref 27 198), (0, .nameAndType 199 136), (0, u "putCharSB"), (8, .methodref 10 209), (0, .nameAndType 210 211), (0, u "putStringAt"), (0, u "(ILjava/lang/String;)V"), (5, u "inflateIfNeededFor"), (2, .nameAndType 221 222), (0, u "getBytes"), (0, u "([BIB)V"), (69, u "(C)Ljava/lang/AbstractStringBuilder;"), (104, .methodref 10 398), (0, .nameAndType 217 69), (0, .methodref 1 220), (3, u "()[B"), (40, .class_ 445), (0, u "java/lang/Appendable"), (106, u "getValue")] 56

def k10m0 : Method := { name := "<init>", desc := "()V", sig := { parameters := [], returnType := none }, accessFlags := 0, code := none }
def k10c1 : Code := { maxStack := 2, maxLocals := 2, code := jdk_68_method_2_code, exceptionTable := #[], attributes := #[] }
def k10m1 : Method := { name := "<init>", desc := "(I)V", sig := { parameters := [.int], returnType := none }, accessFlags := 0, code := some k10c1 }
def k10c2 : Code := { maxStack := 1, maxLocals := 1, code := jdk_68_method_6_code, exceptionTable := #[], attributes := #[] }
def k10m2 : Method := { name := "length", desc := "()I", sig := { parameters := [], returnType := some .int }, accessFlags := 1, code := some k10c2 }
def k10c3 : Code := { maxStack := 4, maxLocals := 3, code := jdk_68_method_9_code, exceptionTable := #[], attributes := #[] }
def k10m3 : Method := { name := "ensureCapacityInternal", desc := "(I)V", sig := { parameters := [.int], returnType := none }, accessFlags := 2, code := some k10c3 }
def k10c4 : Code := { maxStack := 5, maxLocals := 2, code := jdk_68_method_11_code, exceptionTable := #[], attributes := #[] }
def k10m4 : Method := { name := "inflate", desc := "()V", sig := { parameters := [], returnType := none }, accessFlags := 2, code := some k10c4 }
def k10c5 : Code := { maxStack := 3, maxLocals := 3, code := jdk_68_method_22_code, exceptionTable := #[], attributes := #[] }
def k10m5 : Method := { name := "append", desc := "(Ljava/lang/String;)Ljava/lang/AbstractStringBuilder;", sig := { parameters := [(.object "java/lang/String")], returnType := some (.object "java/lang/AbstractStringBuilder") }, accessFlags := 1, code := some k10c5 }
def k10c6 : Code := { maxStack := 5, maxLocals := 2, code := jdk_68_method_31_code, exceptionTable := #[], attributes := #[] }
def k10m6 : Method := { name := "append", desc := "(C)Ljava/lang/AbstractStringBuilder;", sig := { parameters := [.char], returnType := some (.object "java/lang/AbstractStringBuilder") }, accessFlags := 1, code := some k10c6 }
def k10c7 : Code := { maxStack := 1, maxLocals := 1, code := jdk_68_method_64_code, exceptionTable := #[], attributes := #[] }
def k10m7 : Method := { name := "getValue", desc := "()[B", sig := { parameters := [], returnType := some (.array .byte) }, accessFlags := 16, code := some k10c7 }
def k10c8 : Code := { maxStack := 1, maxLocals := 1, code := jdk_68_method_68_code, exceptionTable := #[], attributes := #[] }
def k10m8 : Method := { name := "isLatin1", desc := "()Z", sig := { parameters := [], returnType := some .boolean }, accessFlags := 16, code := some k10c8 }
def k10c9 : Code := { maxStack := 2, maxLocals := 2, code := jdk_68_method_71_code, exceptionTable := #[], attributes := #[] }
def k10m9 : Method := { name := "inflateIfNeededFor", desc := "(Ljava/lang/String;)V", sig := { parameters := [(.object "java/lang/String")], returnType := none }, accessFlags := 2, code := some k10c9 }
def k10c10 : Code := { maxStack := 4, maxLocals := 3, code := jdk_68_method_73_code, exceptionTable := #[], attributes := #[] }
def k10m10 : Method := { name := "putStringAt", desc := "(ILjava/lang/String;)V", sig := { parameters := [.int, (.object "java/lang/String")], returnType := none }, accessFlags := 2, code := some k10c10 }
/-- java/lang/AbstractStringBuilder -/
def k10 : Class := { plain "java/lang/AbstractStringBuilder" (some 0) with
  accessFlags := 1056
  interfaces := #[9, 4]
  cf := some (fileOf pool10 10 #[] #[{ accessFlags := 0, nameIndex := 7, descriptorIndex := 8, attributes := #[] }, { accessFlags := 0, nameIndex := 7, descriptorIndex := 103, attributes := #[] }, { accessFlags := 1, nameIndex := 34, descriptorIndex := 35, attributes := #[] }, { accessFlags := 2, nameIndex := 102, descriptorIndex := 103, attributes := #[] }, { accessFlags := 2, nameIndex := 127, descriptorIndex := 8, attributes := #[] }, { accessFlags := 1, nameIndex := 45, descriptorIndex := 46, attributes := #[] }, { accessFlags := 1, nameIndex := 45, descriptorIndex := 292, attributes := #[] }, { accessFlags := 16, nameIndex := 552, descriptorIndex := 403, attributes := #[] }, { accessFlags := 16, nameIndex := 85, descriptorIndex := 86, attributes := #[] }, { accessFlags := 2, nameIndex := 217, descriptorIndex := 69, attributes := #[] }, { accessFlags := 2, nameIndex := 210, descriptorIndex := 211, attributes := #[] }] 1056 4 #[444, 48] #[{ accessFlags := 0, nameIndex := 17, descriptorIndex := 14, attributes := #[] }, { accessFlags := 0, nameIndex := 24, descriptorIndex := 25, attributes := #[] }, { accessFlags := 0, nameIndex := 75, descriptorIndex := 21, attributes := #[] }, { accessFlags := 0, nameIndex := 81, descriptorIndex := 82, attributes := #[] }, { accessFlags := 26, nameIndex := 13, descriptorIndex := 14, attributes := #[] }])
  fields := #[{ name := "value", type := (.array .byte), accessFlags := 0, slot := 0, constantValue := 0 }, { name := "coder", type := .byte, accessFlags := 0, slot := 1, constantValue := 0 }, { name := "maybeLatin1", type := .boolean, accessFlags := 0, slot := 2, constantValue := 0 }, { name := "count", type := .int, accessFlags := 0, slot := 3, constantValue := 0 }, { name := "EMPTYVALUE", type := (.array .byte), accessFlags := 26, slot := 0, constantValue := 0 }]
  methods := #[k10m0, k10m1, k10m2, k10m3, k10m4, k10m5, k10m6, k10m7, k10m8, k10m9, k10m10]
  instanceTypes := #[(.array .byte), .byte, .boolean, .int]
  staticTypes := #[(.array .byte)]
  resolved := Array.replicate 609 none
  statics := none }

def pool11 : Array CpInfo := pool [(1, .methodref 2 3), (0, .class_ 4), (0, .nameAndType 5 6), (0, u "java/lang/AbstractStringBuilder"), (0, u "<init>"), (0, u "(I)V"), (11, .class_ 20), (1, u "java/lang/String"), (3, .class_ 26), (1, u "java/lang/StringBuilder"), (0, u "append"), (0, u "(Ljava/lang/String;)Ljava/lang/StringBuilder;"), (0, .methodref 2 30), (0, .nameAndType 27 31), (0, u "(Ljava/lang/String;)Ljava/lang/AbstractStringBuilder;"), (18, .methodref 2 51), (0, .nameAndType 27 52), (0, u "(C)Ljava/lang/AbstractStringBuilder;"), (84, .methodref 18 138), (0, .nameAndType 5 139), (0, u "(Ljava/lang/StringBuilder;)V"), (5, u "()V"), (10, u "()I"), (129, u "(C)Ljava/lang/StringBuilder;"), (56, .methodref 2 344), (0, .nameAndType 345 156), (0, u "length"), (3, .class_ 350), (0, u "java/lang/Appendable"), (0, .class_ 352), (0, u "java/io/Serializable"), (0, .class_ 354), (0, u "java/lang/Comparable"), (0, .class_ 356), (0, u "java/lang/CharSequence"), (0, u "serialVersionUID"), (0, u "J"), (40, u "toString"), (0, u "()Ljava/lang/String;")] 21

def k11c0 : Code := { maxStack := 2, maxLocals := 1, code := jdk_67_method_1_code, exceptionTable := #[], attributes := #[] }
def k11m0 : Method := { name := "<init>", desc := "()V", sig := { parameters := [], returnType := none }, accessFlags := 1, code := some k11c0 }
def k11c1 : Code := { maxStack := 2, maxLocals := 2, code := jdk_67_method_7_code, exceptionTable := #[], attributes := #[] }
def k11m1 : Method := { name := "append", desc := "(Ljava/lang/String;)Ljava/lang/StringBuilder;", sig := { parameters := [(.object "java/lang/String")], returnType := some (.object "java/lang/StringBuilder") }, accessFlags := 1, code := some k11c1 }
def k11c2 : Code := { maxStack := 2, maxLocals := 2, code := jdk_67_method_14_code, exceptionTable := #[], attributes := #[] }
def k11m2 : Method := { name := "append", desc := "(C)Ljava/lang/StringBuilder;", sig := { parameters := [.char], returnType := some (.object "java/lang/StringBuilder") }, accessFlags := 1, code := some k11c2 }
def k11c3 : Code := { maxStack := 3, maxLocals := 1, code := jdk_67_method_42_code, exceptionTable := #[], attributes := #[] }
def k11m3 : Method := { name := "toString", desc := "()Ljava/lang/String;", sig := { parameters := [], returnType := some (.object "java/lang/String") }, accessFlags := 1, code := some k11c3 }
def k11c4 : Code := { maxStack := 1, maxLocals := 1, code := jdk_67_method_93_code, exceptionTable := #[], attributes := #[] }
def k11m4 : Method := { name := "length", desc := "()I", sig := { parameters := [], returnType := some .int }, accessFlags := 4161, code := some k11c4 }
/-- java/lang/StringBuilder -/
def k11 : Class := { plain "java/lang/StringBuilder" (some 10) with
  accessFlags := 49
  interfaces := #[9, 2, 3, 4]
  cf := some (fileOf pool11 24 #[] #[{ accessFlags := 1, nameIndex := 5, descriptorIndex := 145, attributes := #[] }, { accessFlags := 1, nameIndex := 27, descriptorIndex := 28, attributes := #[] }, { accessFlags := 1, nameIndex := 27, descriptorIndex := 286, attributes := #[] }, { accessFlags := 1, nameIndex := 399, descriptorIndex := 400, attributes := #[] }, { accessFlags := 4161, nameIndex := 345, descriptorIndex := 156, attributes := #[] }] 49 2 #[349, 351, 353, 355] #[{ accessFlags := 24, nameIndex := 357, descriptorIndex := 358, attributes := #[] }])
  fields := #[{ name := "serialVersionUID", type := .long, accessFlags := 24, slot := 0, constantValue := 0 }]
  methods := #[k11m0, k11m1, k11m2, k11m3, k11m4]
  instanceTypes := #[(.array .byte), .byte, .boolean, .int]
  staticTypes := #[.long]
  resolved := Array.replicate 422 none
  statics := none }

def pool12 : Array CpInfo := pool [(2, .class_ 4), (1, u "java/lang/Object"), (0, u "<init>"), (0, u "()V"), (1, .class_ 10), (1, u "java/lang/System"), (0, u "allowSecurityManager"), (0, u "I"), (16, u "cons"), (0, u "Ljava/io/Console;"), (77, .class_ 110), (1, u "java/lang/System$CallersHolder"), (43, u "initialErrStream"), (0, u "Ljava/io/PrintStream;"), (19, u "security"), (0, u "Ljava/lang/SecurityManager;"), (31, .class_ 209), (0, u "java/lang/System$1"), (7, u "props"), (0, u "Ljava/util/Properties;"), (2, u "lineSeparator"), (0, u "Ljava/lang/String;"), (96, .class_ 321), (1, u "java/lang/System$LoggerFinder"), (5, .class_ 328), (0, u "java/lang/System$Logger"), (67, u "err"), (2, u "out"), (91, u "notSupportedJnuEncoding"), (15, u "in"), (17, u "initialIn"), (0, u "Ljava/io/InputStream;"), (35, u "bootLayer"), (0, u "Ljava/lang/ModuleLayer;"), (99, .class_ 664), (0, u "java/lang/System$2"), (9, u "NEVER"), (2, u "MAYBE"), (49, u "arraycopy"), (0, u "(Ljava/lang/Object;ILjava/lang/Object;II)V"), (72, .class_ 802), (0, u "java/lang/System$Logger$Level")] 31

def k12m0 : Method := { name := "<init>", desc := "()V", sig := { parameters := [], returnType := none }, accessFlags := 2, code := none }
def k12m1 : Method := { name := "arraycopy", desc := "(Ljava/lang/Object;ILjava/lang/Object;II)V", sig := { parameters := [(.object "java/lang/Object"), .int, (.object "java/lang/Object"), .int, .int], returnType := none }, accessFlags := 265, code := none }
/-- java/lang/System -/
def k12 : Class := { plain "java/lang/System" (some 0) with
  accessFlags := 49
  interfaces := #[]
  cf := some (fileOf pool12 8 #[.nestMembers #[319, 327, 801, 108, 663, 208]] #[{ accessFlags := 2, nameIndex := 5, descriptorIndex := 6, attributes := #[] }, { accessFlags := 265, nameIndex := 727, descriptorIndex := 728, attributes := #[] }] 49 2 #[] #[{ accessFlags := 25, nameIndex := 507, descriptorIndex := 526, attributes := #[] }, { accessFlags := 25, nameIndex := 399, descriptorIndex := 155, attributes := #[] }, { accessFlags := 25, nameIndex := 396, descriptorIndex := 155, attributes := #[] }, { accessFlags := 10, nameIndex := 525, descriptorIndex := 526, attributes := #[] }, { accessFlags := 26, nameIndex := 674, descriptorIndex := 12, attributes := #[] }, { accessFlags := 26, nameIndex := 677, descriptorIndex := 12, attributes := #[] }, { accessFlags := 10, nameIndex := 11, descriptorIndex := 12, attributes := #[] }, { accessFlags := 74, nameIndex := 175, descriptorIndex := 176, attributes := #[] }, { accessFlags := 10, nameIndex := 491, descriptorIndex := 222, attributes := #[] }, { accessFlags := 74, nameIndex := 29, descriptorIndex := 30, attributes := #[] }, { accessFlags := 74, nameIndex := 154, descriptorIndex := 155, attributes := #[] }, { accessFlags := 10, nameIndex := 217, descriptorIndex := 218, attributes := #[] }, { accessFlags := 10, nameIndex := 221, descriptorIndex := 222, attributes := #[] }, { accessFlags := 8, nameIndex := 562, descriptorIndex := 563, attributes := #[] }])
  fields := #[{ name := "in", type := (.object "java/io/InputStream"), accessFlags := 25, slot := 0, constantValue := 0 }, { name := "out", type := (.object "java/io/PrintStream"), accessFlags := 25, slot := 1, constantValue := 0 }, { name := "err", type := (.object "java/io/PrintStream"), accessFlags := 25, slot := 2, constantValue := 0 }, { name := "initialIn", type := (.object "java/io/InputStream"), accessFlags := 10, slot := 3, constantValue := 0 }, { name := "NEVER", type := .int, accessFlags := 26, slot := 4, constantValue := 0 }, { name := "MAYBE", type := .int, accessFlags := 26, slot := 5, constantValue := 0 }, { name := "allowSecurityManager", type := .int, accessFlags := 10, slot := 6, constantValue := 0 }, { name := "security", type := (.object "java/lang/SecurityManager"), accessFlags := 74, slot := 7, constantValue := 0 }, { name := "notSupportedJnuEncoding", type := (.object "java/lang/String"), accessFlags := 10, slot := 8, constantValue := 0 }, { name := "cons", type := (.object "java/io/Console"), accessFlags := 74, slot := 9, constantValue := 0 }, { name := "initialErrStream", type := (.object "java/io/PrintStream"), accessFlags := 74, slot := 10, constantValue := 0 }, { name := "props", type := (.object "java/util/Properties"), accessFlags := 10, slot := 11, constantValue := 0 }, { name := "lineSeparator", type := (.object "java/lang/String"), accessFlags := 10, slot := 12, constantValue := 0 }, { name := "bootLayer", type := (.object "java/lang/ModuleLayer"), accessFlags := 8, slot := 13, constantValue := 0 }]
  methods := #[k12m0, k12m1]
  instanceTypes := #[]
  staticTypes := #[(.object "java/io/InputStream"), (.object "java/io/PrintStream"), (.object "java/io/PrintStream"), (.object "java/io/InputStream"), .int, .int, .int, (.object "java/lang/SecurityManager"), (.object "java/lang/String"), (.object "java/io/Console"), (.object "java/io/PrintStream"), (.object "java/util/Properties"), (.object "java/lang/String"), (.object "java/lang/ModuleLayer")]
  resolved := Array.replicate 834 none
  statics := none }

def pool13 : Array CpInfo := pool [(1, .class_ 2), (0, u "java/lang/String"), (1, .class_ 6), (1, u "java/lang/Object"), (0, u "<init>"), (0, u "()V"), (0, .methodref 1 10), (0, .nameAndType 11 12), (0, u "checkIndex"), (0, u "(II)V"), (1, .class_ 16), (1, u "java/lang/StringLatin1"), (0, u "inflate"), (2, .class_ 22), (1, u "java/lang/StringUTF16"), (3, .nameAndType 17 27), (0, u "([BI[BII)V"), (25, u "([BI)C"), (36, u "canEncode"), (14, u "(C)Z"), (15, u "$assertionsDisabled"), (0, u "Z"), (98, .class_ 223), (1, u "java/lang/StringLatin1$LinesSpliterator"), (16, .methodref 20 26), (11, u "charAt"), (127, u "toBytes"), (1, u "(C)[B"), (7, .class_ 391), (0, u "java/lang/StringLatin1$CharsSpliterator")] 3

def k13m0 : Method := { name := "<init>", desc := "()V", sig := { parameters := [], returnType := none }, accessFlags := 0, code := none }
def k13c1 : Code := { maxStack := 2, maxLocals := 2, code := jdk_43_method_2_code, exceptionTable := #[], attributes := #[] }
def k13m1 : Method := { name := "charAt", desc := "([BI)C", sig := { parameters := [(.array .byte), .int], returnType := some .char }, accessFlags := 9, code := some k13c1 }
def k13c2 : Code := { maxStack := 2, maxLocals := 1, code := jdk_43_method_3_code, exceptionTable := #[], attributes := #[] }
def k13m2 : Method := { name := "canEncode", desc := "(C)Z", sig := { parameters := [.char], returnType := some .boolean }, accessFlags := 9, code := some k13c2 }
def k13c3 : Code := { maxStack := 4, maxLocals := 1, code := jdk_43_method_46_code, exceptionTable := #[], attributes := #[] }
def k13m3 : Method := { name := "toBytes", desc := "(C)[B", sig := { parameters := [.char], returnType := some (.array .byte) }, accessFlags := 9, code := some k13c3 }
def k13c4 : Code := { maxStack := 5, maxLocals := 5, code := jdk_43_method_50_code, exceptionTable := #[], attributes := #[] }
def k13m4 : Method := { name := "inflate", desc := "([BI[BII)V", sig := { parameters := [(.array .byte), .int, (.array .byte), .int, .int], returnType := none }, accessFlags := 9, code := some k13c4 }
/-- java/lang/StringLatin1 -/
def k13 : Class := { plain "java/lang/StringLatin1" (some 0) with
  accessFlags := 48
  interfaces := #[]
  cf := some (fileOf pool13 14 #[.nestMembers #[390, 221]] #[{ accessFlags := 0, nameIndex := 7, descriptorIndex := 8, attributes := #[] }, { accessFlags := 9, nameIndex := 252, descriptorIndex := 53, attributes := #[] }, { accessFlags := 9, nameIndex := 90, descriptorIndex := 105, attributes := #[] }, { accessFlags := 9, nameIndex := 380, descriptorIndex := 382, attributes := #[] }, { accessFlags := 9, nameIndex := 17, descriptorIndex := 27, attributes := #[] }] 48 4 #[] #[{ accessFlags := 4120, nameIndex := 121, descriptorIndex := 122, attributes := #[] }])
  fields := #[{ name := "$assertionsDisabled", type := .boolean, accessFlags := 4120, slot := 0, constantValue := 0 }]
  methods := #[k13m0, k13m1, k13m2, k13m3, k13m4]
  instanceTypes := #[]
  staticTypes := #[.boolean]
  resolved := Array.replicate 395 none
  statics := none }

def pool14 : Array CpInfo := pool [(2, .class_ 4), (1, u "java/lang/Object"), (0, u "<init>"), (0, u "()V"), (7, .class_ 16), (1, u "java/util/Arrays"), (57, .class_ 76), (1, u "java/util/Arrays$NaturalOrder"), (36, .class_ 115), (1, u "java/util/Arrays$LegacyMergeSort"), (1, u "Z"), (21, u "copyOfRange"), (10, .methodref 151 152), (0, .class_ 153), (0, .nameAndType 154 155), (0, u "java/lang/System"), (0, u "arraycopy"), (0, u "(Ljava/lang/Object;ILjava/lang/Object;II)V"), (148, .methodref 305 306), (0, .class_ 307), (0, .nameAndType 308 309), (0, u "java/lang/Math"), (0, u "min"), (0, u "(II)I"), (29, .methodref 14 340), (0, .nameAndType 341 342), (0, u "copyOfRangeByte"), (0, u "([BII)[B"), (0, .methodref 14 344), (0, .nameAndType 345 346), (0, u "checkLength"), (0, u "(II)V"), (28, .class_ 376), (0, u "java/util/Arrays$ArrayList"), (68, u "$assertionsDisabled"), (269, u "MIN_ARRAY_SORT_GRAN"), (0, u "I"), (2, u "INSERTIONSORT_THRESHOLD"), (255, .class_ 976), (0, u "java/util/Arrays$ArrayItr")] 52

def k14m0 : Method := { name := "<init>", desc := "()V", sig := { parameters := [], returnType := none }, accessFlags := 2, code := none }
def k14c1 : Code := { maxStack := 4, maxLocals := 2, code := jdk_65_method_131_code, exceptionTable := #[], attributes := #[] }
def k14m1 : Method := { name := "checkLength", desc := "(II)V", sig := { parameters := [.int, .int], returnType := none }, accessFlags := 10, code := some k14c1 }
def k14c2 : Code := { maxStack := 3, maxLocals := 3, code := jdk_65_method_132_code, exceptionTable := #[], attributes := #[] }
def k14m2 : Method := { name := "copyOfRange", desc := "([BII)[B", sig := { parameters := [(.array .byte), .int, .int], returnType := some (.array .byte) }, accessFlags := 9, code := some k14c2 }
def k14c3 : Code := { maxStack := 6, maxLocals := 5, code := jdk_65_method_133_code, exceptionTable := #[], attributes := #[] }
def k14m3 : Method := { name := "copyOfRangeByte", desc := "([BII)[B", sig := { parameters := [(.array .byte), .int, .int], returnType := some (.array .byte) }, accessFlags := 10, code := some k14c3 }
/-- java/util/Arrays -/
def k14 : Class := { plain "java/util/Arrays" (some 0) with
  accessFlags := 49
  interfaces := #[]
  cf := some (fileOf pool14 14 #[.nestMembers #[975, 375, 113, 74]] #[{ accessFlags := 2, nameIndex := 5, descriptorIndex := 6, attributes := #[] }, { accessFlags := 10, nameIndex := 345, descriptorIndex := 346, attributes := #[] }, { accessFlags := 9, nameIndex := 139, descriptorIndex := 342, attributes := #[] }, { accessFlags := 10, nameIndex := 341, descriptorIndex := 342, attributes := #[] }] 49 2 #[] #[{ accessFlags := 26, nameIndex := 715, descriptorIndex := 716, attributes := #[] }, { accessFlags := 26, nameIndex := 719, descriptorIndex := 716, attributes := #[] }, { accessFlags := 4120, nameIndex := 445, descriptorIndex := 117, attributes := #[] }])
  fields := #[{ name := "MIN_ARRAY_SORT_GRAN", type := .int, accessFlags := 26, slot := 0, constantValue := 0 }, { name := "INSERTIONSORT_THRESHOLD", type := .int, accessFlags := 26, slot := 1, constantValue := 0 }, { name := "$assertionsDisabled", type := .boolean, accessFlags := 4120, slot := 2, constantValue := 0 }]
  methods := #[k14m0, k14m1, k14m2, k14m3]
  instanceTypes := #[]
  staticTypes := #[.int, .int, .boolean]
  resolved := Array.replicate 1029 none
  statics := none }

def pool15 : Array CpInfo := pool [(1, .class_ 2), (0, u "java/lang/Math"), (1, .class_ 6), (1, u "java/lang/Object"), (0, u "<init>"), (0, u "()V"), (89, .class_ 100), (1, u "java/lang/Math$RandomNumberGeneratorHolder"), (71, u "negativeZeroFloatBits"), (0, u "J"), (2, u "negativeZeroDoubleBits"), (24, u "min"), (43, u "$assertionsDisabled"), (0, u "Z"), (88, u "(II)I"), (2, u "twoToTheDoubleScaleDown"), (0, u "D"), (4, u "twoToTheDoubleScaleUp"), (9, u "E"), (3, u "PI"), (2, u "TAU"), (2, u "DEGREES_TO_RADIANS"), (0, u "RADIANS_TO_DEGREES")] 94

def k15m0 : Method := { name := "<init>", desc := "()V", sig := { parameters := [], returnType := none }, accessFlags := 2, code := none }
def k15c1 : Code := { maxStack := 2, maxLocals := 2, code := jdk_29_method_69_code, exceptionTable := #[], attributes := #[] }
def k15m1 : Method := { name := "min", desc := "(II)I", sig := { parameters := [.int, .int], returnType := some .int }, accessFlags := 9, code := some k15c1 }
/-- java/lang/Math -/
def k15 : Class := { plain "java/lang/Math" (some 0) with
  accessFlags := 49
  interfaces := #[]
  cf := some (fileOf pool15 1 #[.nestMembers #[98]] #[{ accessFlags := 2, nameIndex := 7, descriptorIndex := 8, attributes := #[] }, { accessFlags := 9, nameIndex := 201, descriptorIndex := 335, attributes := #[] }] 49 4 #[] #[{ accessFlags := 25, nameIndex := 354, descriptorIndex := 339, attributes := #[] }, { accessFlags := 25, nameIndex := 358, descriptorIndex := 339, attributes := #[] }, { accessFlags := 25, nameIndex := 361, descriptorIndex := 339, attributes := #[] }, { accessFlags := 26, nameIndex := 364, descriptorIndex := 339, attributes := #[] }, { accessFlags := 26, nameIndex := 365, descriptorIndex := 339, attributes := #[] }, { accessFlags := 26, nameIndex := 172, descriptorIndex := 173, attributes := #[] }, { accessFlags := 26, nameIndex := 176, descriptorIndex := 173, attributes := #[] }, { accessFlags := 8, nameIndex := 344, descriptorIndex := 339, attributes := #[] }, { accessFlags := 8, nameIndex := 338, descriptorIndex := 339, attributes := #[] }, { accessFlags := 4120, nameIndex := 245, descriptorIndex := 246, attributes := #[] }])
  fields := #[{ name := "E", type := .double, accessFlags := 25, slot := 0, constantValue := 0 }, { name := "PI", type := .double, accessFlags := 25, slot := 1, constantValue := 0 }, { name := "TAU", type := .double, accessFlags := 25, slot := 2, constantValue := 0 }, { name := "DEGREES_TO_RADIANS", type := .double, accessFlags := 26, slot := 3, constantValue := 0 }, { name := "RADIANS_TO_DEGREES", type := .double, accessFlags := 26, slot := 4, constantValue := 0 }, { name := "negativeZeroFloatBits", type := .long, accessFlags := 26, slot := 5, constantValue := 0 }, { name := "negativeZeroDoubleBits", type := .long, accessFlags := 26, slot := 6, constantValue := 0 }, { name := "twoToTheDoubleScaleUp", type := .double, accessFlags := 8, slot := 7, constantValue := 0 }, { name := "twoToTheDoubleScaleDown", type := .double, accessFlags := 8, slot := 8, constantValue := 0 }, { name := "$assertionsDisabled", type := .boolean, accessFlags := 4120, slot := 9, constantValue := 0 }]
  methods := #[k15m0, k15m1]
  instanceTypes := #[]
  staticTypes := #[.double, .double, .double, .double, .double, .long, .long, .double, .double, .boolean]
  resolved := Array.replicate 460 none
  statics := none }

def pool16 : Array CpInfo := pool [(2, .class_ 4), (1, u "java/lang/Object"), (0, u "<init>"), (0, u "()V"), (17, .class_ 26), (1, u "jdk/internal/util/Preconditions"), (6, u "checkIndex"), (15, u "checkFromIndexSize"), (5, .class_ 56), (0, u "jdk/internal/util/Preconditions$4"), (57, .class_ 115), (0, u "jdk/internal/util/Preconditions$1"), (7, u "SIOOBE_FORMATTER"), (0, u "Ljava/util/function/BiFunction;"), (0, .class_ 126), (0, u "jdk/internal/util/Preconditions$2"), (3, u "AIOOBE_FORMATTER"), (0, .class_ 132), (0, u "jdk/internal/util/Preconditions$3"), (3, u "IOOBE_FORMATTER"), (41, u "(IILjava/util/function/BiFunction;)I"), (4, u "(IIILjava/util/function/BiFunction;)I")] 10

def k16m0 : Method := { name := "<init>", desc := "()V", sig := { parameters := [], returnType := none }, accessFlags := 1, code := none }
def k16c1 : Code := { maxStack := 3, maxLocals := 3, code := jdk_41_method_11_code, exceptionTable := #[], attributes := #[] }
def k16m1 : Method := { name := "checkIndex", desc := "(IILjava/util/function/BiFunction;)I", sig := { parameters := [.int, .int, (.object "java/util/function/BiFunction")], returnType := some .int }, accessFlags := 9, code := some k16c1 }
def k16c2 : Code := { maxStack := 4, maxLocals := 4, code := jdk_41_method_13_code, exceptionTable := #[], attributes := #[] }
def k16m2 : Method := { name := "checkFromIndexSize", desc := "(IIILjava/util/function/BiFunction;)I", sig := { parameters := [.int, .int, .int, (.object "java/util/function/BiFunction")], returnType := some .int }, accessFlags := 9, code := some k16c2 }
/-- jdk/internal/util/Preconditions -/
def k16 : Class := { plain "jdk/internal/util/Preconditions" (some 0) with
  accessFlags := 33
  interfaces := #[]
  cf := some (fileOf pool16 24 #[.nestMembers #[55, 131, 125, 114]] #[{ accessFlags := 1, nameIndex := 5, descriptorIndex := 6, attributes := #[] }, { accessFlags := 9, nameIndex := 33, descriptorIndex := 178, attributes := #[] }, { accessFlags := 9, nameIndex := 49, descriptorIndex := 183, attributes := #[] }] 33 2 #[] #[{ accessFlags := 25, nameIndex := 123, descriptorIndex := 124, attributes := #[] }, { accessFlags := 25, nameIndex := 130, descriptorIndex := 124, attributes := #[] }, { accessFlags := 25, nameIndex := 136, descriptorIndex := 124, attributes := #[] }])
  fields := #[{ name := "SIOOBE_FORMATTER", type := (.object "java/util/function/BiFunction"), accessFlags := 25, slot := 0, constantValue := 0 }, { name := "AIOOBE_FORMATTER", type := (.object "java/util/function/BiFunction"), accessFlags := 25, slot := 1, constantValue := 0 }, { name := "IOOBE_FORMATTER", type := (.object "java/util/function/BiFunction"), accessFlags := 25, slot := 2, constantValue := 0 }]
  methods := #[k16m0, k16m1, k16m2]
  instanceTypes := #[]
  staticTypes := #[(.object "java/util/function/BiFunction"), (.object "java/util/function/BiFunction"), (.object "java/util/function/BiFunction")]
  resolved := Array.replicate 194 none
  statics := some 1 }

def pool17 : Array CpInfo := pool [(3, .class_ 4), (0, u "java/lang/String"), (1, .class_ 8), (1, u "java/lang/Object"), (0, u "<init>"), (0, u "()V"), (0, .methodref 12 13), (0, .class_ 14), (0, .nameAndType 15 16), (0, u "java/lang/StringUTF16"), (0, u "newBytesLength"), (0, u "(I)I"), (3, .integer 1073741823), (23, .fieldref 12 45), (0, .nameAndType 46 47), (0, u "$assertionsDisabled"), (0, u "Z"), (0, .methodref 12 49), (0, .nameAndType 50 51), (0, u "length"), (0, u "([B)I"), (7, .fieldref 12 60), (0, .nameAndType 61 62), (0, u "HI_BYTE_SHIFT"), (0, u "I"), (0, .fieldref 12 64), (0, .nameAndType 65 62), (0, u "LO_BYTE_SHIFT"), (1, .methodref 12 68), (0, .nameAndType 69 70), (0, u "checkIndex"), (0, u "(I[B)V"), (0, .methodref 12 72), (0, .nameAndType 73 74), (0, u "getChar"), (0, u "([BI)C"), (24, u "(II[B)V"), (7, .methodref 12 108), (0, .nameAndType 109 110), (0, u "newBytesFor"), (0, u "(I)[B"), (0, .methodref 12 112), (0, .nameAndType 113 114), (0, u "putChar"), (0, u "([BII)V"), (0, .methodref 12 116), (0, .nameAndType 117 118), (0, u "compress"), (0, u "([CI[BII)I"), (0, .methodref 12 120), (0, .nameAndType 121 122), (0, u "toBytes"), (0, u "([CII)[B"), (17, u "inflate"), (0, u "([BI[BII)V"), (31, .methodref 12 174), (0, .nameAndType 175 99), (0, u "checkBoundsOffCount"), (85, u "coderFromArrayLen"), (0, u "([BI)B"), (18, u "(III)I"), (87, .class_ 371), (1, u "java/lang/StringUTF16$LinesSpliterator"), (20, u "charAt"), (21, .methodref 3 415), (0, .nameAndType 69 416), (0, u "(II)V"), (2, .methodref 3 420), (0, .nameAndType 175 281), (9, u "MAX_LENGTH"), (44, u "(C)[B"), (110, u "putCharSB"), (40, .class_ 628), (0, u "java/lang/StringUTF16$CodePointsSpliterator"), (0, .class_ 630), (0, u "java/lang/StringUTF16$CharsSpliterator")] 4

def k17m0 : Method := { name := "<init>", desc := "()V", sig := { parameters := [], returnType := none }, accessFlags := 0, code := none }
def k17c1 : Code := { maxStack := 1, maxLocals := 1, code := jdk_52_method_2_code, exceptionTable := #[], attributes := #[] }
def k17m1 : Method := { name := "newBytesFor", desc := "(I)[B", sig := { parameters := [.int], returnType := some (.array .byte) }, accessFlags := 9, code := some k17c1 }
def k17c2 : Code := { maxStack := 4, maxLocals := 1, code := jdk_52_method_3_code, exceptionTable := #[], attributes := #[] }
def k17m2 : Method := { name := "newBytesLength", desc := "(I)I", sig := { parameters := [.int], returnType := some .int }, accessFlags := 9, code := some k17c2 }
def k17c3 : Code := { maxStack := 4, maxLocals := 3, code := jdk_52_method_4_code, exceptionTable := #[], attributes := #[] }
def k17m3 : Method := { name := "putChar", desc := "([BII)V", sig := { parameters := [(.array .byte), .int, .int], returnType := none }, accessFlags := 8, code := some k17c3 }
def k17c4 : Code := { maxStack := 3, maxLocals := 2, code := jdk_52_method_5_code, exceptionTable := #[], attributes := #[] }
def k17m4 : Method := { name := "getChar", desc := "([BI)C", sig := { parameters := [(.array .byte), .int], returnType := some .char }, accessFlags := 8, code := some k17c4 }
def k17c5 : Code := { maxStack := 2, maxLocals := 1, code := jdk_52_method_6_code, exceptionTable := #[], attributes := #[] }
def k17m5 : Method := { name := "length", desc := "([B)I", sig := { parameters := [(.array .byte)], returnType := some .int }, accessFlags := 9, code := some k17c5 }
def k17c6 : Code := { maxStack := 4, maxLocals := 5, code := jdk_52_method_14_code, exceptionTable := #[], attributes := #[] }
def k17m6 : Method := { name := "toBytes", desc := "([CII)[B", sig := { parameters := [(.array .char), .int, .int], returnType := some (.array .byte) }, accessFlags := 9, code := some k17c6 }
def k17c7 : Code := { maxStack := 2, maxLocals := 2, code := jdk_52_method_15_code, exceptionTable := #[], attributes := #[] }
def k17m7 : Method := { name := "coderFromArrayLen", desc := "([BI)B", sig := { parameters := [(.array .byte), .int], returnType := some .byte }, accessFlags := 8, code := some k17c7 }
def k17c8 : Code := { maxStack := 5, maxLocals := 6, code := jdk_52_method_16_code, exceptionTable := #[], attributes := #[] }
def k17m8 : Method := { name := "compress", desc := "([CII)[B", sig := { parameters := [(.array .char), .int, .int], returnType := some (.array .byte) }, accessFlags := 9, code := some k17c8 }
def k17c9 : Code := { maxStack := 3, maxLocals := 7, code := jdk_52_method_21_code, exceptionTable := #[], attributes := #[] }
def k17m9 : Method := { name := "compress", desc := "([CI[BII)I", sig := { parameters := [(.array .char), .int, (.array .byte), .int, .int], returnType := some .int }, accessFlags := 9, code := some k17c9 }
def k17c10 : Code := { maxStack := 3, maxLocals := 2, code := jdk_52_method_24_code, exceptionTable := #[], attributes := #[] }
def k17m10 : Method := { name := "toBytes", desc := "(C)[B", sig := { parameters := [.char], returnType := some (.array .byte) }, accessFlags := 9, code := some k17c10 }
def k17c11 : Code := { maxStack := 3, maxLocals := 3, code := jdk_52_method_71_code, exceptionTable := #[], attributes := #[] }
def k17m11 : Method := { name := "putCharSB", desc := "([BII)V", sig := { parameters := [(.array .byte), .int, .int], returnType := none }, accessFlags := 9, code := some k17c11 }
def k17c12 : Code := { maxStack := 2, maxLocals := 2, code := jdk_52_method_83_code, exceptionTable := #[], attributes := #[] }
def k17m12 : Method := { name := "charAt", desc := "([BI)C", sig := { parameters := [(.array .byte), .int], returnType := some .char }, accessFlags := 9, code := some k17c12 }
def k17c13 : Code := { maxStack := 4, maxLocals := 6, code := jdk_52_method_86_code, exceptionTable := #[], attributes := #[] }
def k17m13 : Method := { name := "inflate", desc := "([BI[BII)V", sig := { parameters := [(.array .byte), .int, (.array .byte), .int, .int], returnType := none }, accessFlags := 9, code := some k17c13 }
def k17c14 : Code := { maxStack := 2, maxLocals := 2, code := jdk_52_method_91_code, exceptionTable := #[], attributes := #[] }
def k17m14 : Method := { name := "checkIndex", desc := "(I[B)V", sig := { parameters := [.int, (.array .byte)], returnType := none }, accessFlags := 9, code := some k17c14 }
def k17c15 : Code := { maxStack := 3, maxLocals := 3, code := jdk_52_method_94_code, exceptionTable := #[], attributes := #[] }
def k17m15 : Method := { name := "checkBoundsOffCount", desc := "(II[B)V", sig := { parameters := [.int, .int, (.array .byte)], returnType := none }, accessFlags := 9, code := some k17c15 }
/-- java/lang/StringUTF16 -/
def k17 : Class := { plain "java/lang/StringUTF16" (some 0) with
  accessFlags := 48
  interfaces := #[]
  cf := some (fileOf pool17 12 #[.nestMembers #[627, 629, 369]] #[{ accessFlags := 0, nameIndex := 9, descriptorIndex := 10, attributes := #[] }, { accessFlags := 9, nameIndex := 109, descriptorIndex := 110, attributes := #[] }, { accessFlags := 9, nameIndex := 15, descriptorIndex := 16, attributes := #[] }, { accessFlags := 8, nameIndex := 113, descriptorIndex := 114, attributes := #[] }, { accessFlags := 8, nameIndex := 73, descriptorIndex := 74, attributes := #[] }, { accessFlags := 9, nameIndex := 50, descriptorIndex := 51, attributes := #[] }, { accessFlags := 9, nameIndex := 121, descriptorIndex := 122, attributes := #[] }, { accessFlags := 8, nameIndex := 261, descriptorIndex := 262, attributes := #[] }, { accessFlags := 9, nameIndex := 117, descriptorIndex := 122, attributes := #[] }, { accessFlags := 9, nameIndex := 117, descriptorIndex := 118, attributes := #[] }, { accessFlags := 9, nameIndex := 121, descriptorIndex := 475, attributes := #[] }, { accessFlags := 9, nameIndex := 586, descriptorIndex := 114, attributes := #[] }, { accessFlags := 9, nameIndex := 392, descriptorIndex := 74, attributes := #[] }, { accessFlags := 9, nameIndex := 140, descriptorIndex := 141, attributes := #[] }, { accessFlags := 9, nameIndex := 69, descriptorIndex := 70, attributes := #[] }, { accessFlags := 9, nameIndex := 175, descriptorIndex := 99, attributes := #[] }] 48 6 #[] #[{ accessFlags := 26, nameIndex := 61, descriptorIndex := 62, attributes := #[] }, { accessFlags := 26, nameIndex := 65, descriptorIndex := 62, attributes := #[] }, { accessFlags := 24, nameIndex := 430, descriptorIndex := 62, attributes := #[] }, { accessFlags := 4120, nameIndex := 46, descriptorIndex := 47, attributes := #[] }])
  fields := #[{ name := "HI_BYTE_SHIFT", type := .int, accessFlags := 26, slot := 0, constantValue := 0 }, { name := "LO_BYTE_SHIFT", type := .int, accessFlags := 26, slot := 1, constantValue := 0 }, { name := "MAX_LENGTH", type := .int, accessFlags := 24, slot := 2, constantValue := 0 }, { name := "$assertionsDisabled", type := .boolean, accessFlags := 4120, slot := 3, constantValue := 0 }]
  methods := #[k17m0, k17m1, k17m2, k17m3, k17m4, k17m5, k17m6, k17m7, k17m8, k17m9, k17m10, k17m11, k17m12, k17m13, k17m14, k17m15]
  instanceTypes := #[]
  staticTypes := #[.int, .int, .int, .boolean]
  resolved := Array.replicate 635 none
  statics := some 2 }

def pool18 : Array CpInfo := pool [(9, u "<init>"), (6, .class_ 18), (1, u "java/lang/Object"), (0, u "()V"), (1, .class_ 23), (1, u "jdk/internal/util/ArraysSupport"), (0, u "LOG2_ARRAY_LONG_INDEX_SCALE"), (0, u "I"), (2, u "U"), (0, u "Ljdk/internal/misc/Unsafe;"), (8, u "BIG_ENDIAN"), (0, u "Z"), (8, u "LOG2_BYTE_BIT_SIZE"), (4, u "LOG2_ARRAY_INT_INDEX_SCALE"), (54, u "JLA"), (0, u "Ljdk/internal/access/JavaLangAccess;"), (11, u "LOG2_ARRAY_BOOLEAN_INDEX_SCALE"), (9, u "LOG2_ARRAY_BYTE_INDEX_SCALE"), (5, u "LOG2_ARRAY_CHAR_INDEX_SCALE"), (5, u "LOG2_ARRAY_SHORT_INDEX_SCALE"), (18, u "LOG2_ARRAY_FLOAT_INDEX_SCALE"), (24, u "LOG2_ARRAY_DOUBLE_INDEX_SCALE"), (89, u "T_BOOLEAN"), (2, u "T_CHAR"), (1, u "T_FLOAT"), (1, u "T_DOUBLE"), (1, u "T_BYTE"), (1, u "T_SHORT"), (1, u "T_INT"), (1, u "T_LONG"), (1, u "SOFT_MAX_ARRAY_LENGTH")] 83

def k18m0 : Method := { name := "<init>", desc := "()V", sig := { parameters := [], returnType := none }, accessFlags := 2, code := none }
/-- jdk/internal/util/ArraysSupport -/
def k18 : Class := { plain "jdk/internal/util/ArraysSupport" (some 0) with
  accessFlags := 33
  interfaces := #[]
  cf := some (fileOf pool18 21 #[] #[{ accessFlags := 2, nameIndex := 9, descriptorIndex := 19, attributes := #[] }] 33 16 #[] #[{ accessFlags := 24, nameIndex := 28, descriptorIndex := 29, attributes := #[] }, { accessFlags := 26, nameIndex := 38, descriptorIndex := 39, attributes := #[] }, { accessFlags := 25, nameIndex := 121, descriptorIndex := 25, attributes := #[] }, { accessFlags := 25, nameIndex := 131, descriptorIndex := 25, attributes := #[] }, { accessFlags := 25, nameIndex := 137, descriptorIndex := 25, attributes := #[] }, { accessFlags := 25, nameIndex := 143, descriptorIndex := 25, attributes := #[] }, { accessFlags := 25, nameIndex := 53, descriptorIndex := 25, attributes := #[] }, { accessFlags := 25, nameIndex := 24, descriptorIndex := 25, attributes := #[] }, { accessFlags := 25, nameIndex := 162, descriptorIndex := 25, attributes := #[] }, { accessFlags := 25, nameIndex := 187, descriptorIndex := 25, attributes := #[] }, { accessFlags := 26, nameIndex := 48, descriptorIndex := 25, attributes := #[] }, { accessFlags := 25, nameIndex := 277, descriptorIndex := 25, attributes := #[] }, { accessFlags := 25, nameIndex := 280, descriptorIndex := 25, attributes := #[] }, { accessFlags := 25, nameIndex := 282, descriptorIndex := 25, attributes := #[] }, { accessFlags := 25, nameIndex := 284, descriptorIndex := 25, attributes := #[] }, { accessFlags := 25, nameIndex := 286, descriptorIndex := 25, attributes := #[] }, { accessFlags := 25, nameIndex := 288, descriptorIndex := 25, attributes := #[] }, { accessFlags := 25, nameIndex := 290, descriptorIndex := 25, attributes := #[] }, { accessFlags := 25, nameIndex := 292, descriptorIndex := 25, attributes := #[] }, { accessFlags := 26, nameIndex := 108, descriptorIndex := 109, attributes := #[] }, { accessFlags := 25, nameIndex := 294, descriptorIndex := 25, attributes := #[] }])
  fields := #[{ name := "U", type := (.object "jdk/internal/misc/Unsafe"), accessFlags := 24, slot := 0, constantValue := 0 }, { name := "BIG_ENDIAN", type := .boolean, accessFlags := 26, slot := 1, constantValue := 0 }, { name := "LOG2_ARRAY_BOOLEAN_INDEX_SCALE", type := .int, accessFlags := 25, slot := 2, constantValue := 0 }, { name := "LOG2_ARRAY_BYTE_INDEX_SCALE", type := .int, accessFlags := 25, slot := 3, constantValue := 0 }, { name := "LOG2_ARRAY_CHAR_INDEX_SCALE", type := .int, accessFlags := 25, slot := 4, constantValue := 0 }, { name := "LOG2_ARRAY_SHORT_INDEX_SCALE", type := .int, accessFlags := 25, slot := 5, constantValue := 0 }, { name := "LOG2_ARRAY_INT_INDEX_SCALE", type := .int, accessFlags := 25, slot := 6, constantValue := 0 }, { name := "LOG2_ARRAY_LONG_INDEX_SCALE", type := .int, accessFlags := 25, slot := 7, constantValue := 0 }, { name := "LOG2_ARRAY_FLOAT_INDEX_SCALE", type := .int, accessFlags := 25, slot := 8, constantValue := 0 }, { name := "LOG2_ARRAY_DOUBLE_INDEX_SCALE", type := .int, accessFlags := 25, slot := 9, constantValue := 0 }, { name := "LOG2_BYTE_BIT_SIZE", type := .int, accessFlags := 26, slot := 10, constantValue := 0 }, { name := "T_BOOLEAN", type := .int, accessFlags := 25, slot := 11, constantValue := 0 }, { name := "T_CHAR", type := .int, accessFlags := 25, slot := 12, constantValue := 0 }, { name := "T_FLOAT", type := .int, accessFlags := 25, slot := 13, constantValue := 0 }, { name := "T_DOUBLE", type := .int, accessFlags := 25, slot := 14, constantValue := 0 }, { name := "T_BYTE", type := .int, accessFlags := 25, slot := 15, constantValue := 0 }, { name := "T_SHORT", type := .int, accessFlags := 25, slot := 16, constantValue := 0 }, { name := "T_INT", type := .int, accessFlags := 25, slot := 17, constantValue := 0 }, { name := "T_LONG", type := .int, accessFlags := 25, slot := 18, constantValue := 0 }, { name := "JLA", type := (.object "jdk/internal/access/JavaLangAccess"), accessFlags := 26, slot := 19, constantValue := 0 }, { name := "SOFT_MAX_ARRAY_LENGTH", type := .int, accessFlags := 25, slot := 20, constantValue := 0 }]
  methods := #[k18m0]
  instanceTypes := #[]
  staticTypes := #[(.object "jdk/internal/misc/Unsafe"), .boolean, .int, .int, .int, .int, .int, .int, .int, .int, .int, .int, .int, .int, .int, .int, .int, .int, .int, (.object "jdk/internal/access/JavaLangAccess"), .int]
  resolved := Array.replicate 378 none
  statics := none }

def pool19 : Array CpInfo := pool [(1, u "java/lang/Cloneable"), (0, .class_ 1), (0, u "java/lang/Object"), (0, .class_ 3)] 3

/-- java/lang/Cloneable -/
def k19 : Class := { plain "java/lang/Cloneable" (some 0) with
  accessFlags := 1537
  interfaces := #[]
  cf := some (fileOf pool19 2 #[] #[] 1537 4 #[] #[])
  fields := #[]
  methods := #[]
  instanceTypes := #[]
  staticTypes := #[]
  resolved := Array.replicate 8 none
  statics := none }

/-- the primitive byte -/
def k20 : Class := { plain "byte" none with kind := .primitive 'B', accessFlags := 0x411 }
/-- [B -/
def k21 : Class := { plain "[B" (some 0) with kind := .array 20 .byte, interfaces := #[19, 2], accessFlags := 1041 }

/-- the primitive char -/
def k22 : Class := { plain "char" none with kind := .primitive 'C', accessFlags := 0x411 }
/-- [C -/
def k23 : Class := { plain "[C" (some 0) with kind := .array 22 .char, interfaces := #[19, 2], accessFlags := 1041 }

/-- the primitive int -/
def k24 : Class := { plain "int" none with kind := .primitive 'I', accessFlags := 0x411 }
/-- [I -/
def k25 : Class := { plain "[I" (some 0) with kind := .array 24 .int, interfaces := #[19, 2], accessFlags := 1041 }

def heap : Heap := #[{ cls := 7, slots := #[.long 0, .int 1, .null, .int 0, .null, .int 0, .int 0], vm := .statics 7 },
  { cls := 16, slots := #[.null, .null, .null], vm := .statics 16 },
  { cls := 17, slots := #[.int 0, .int 8, .int 0, .int 1], vm := .statics 17 }]
def classes : Array Class := #[k0, k1, k2, k3, k4, k5, k6, k7, k8, k9, k10, k11, k12, k13, k14, k15, k16, k17, k18, k19, k20, k21, k22, k23, k24, k25]
def interned : List (Array UInt16 × Addr) := []
def slotsUsed : Nat := 14
def theMethod : MethodId := ⟨1, 1⟩
def args0 : Array Value := #[.int 5, .int 5, .int 5, .int 5]
def aboutOver (below : List Frame) : State where
  vm := { classes := classes, interned := interned.toArray }
  heap := heap
  slotsUsed := slotsUsed
  threads := #[{ frames := .invoking theMethod args0 :: below }]
def below0 : List Frame := [.native { method := ⟨0, 0⟩, args := #[] }]
def about1 : State := aboutOver below0
def p0 : Program := .bare "" "" ""
def e0 : Env := launch0.env 0 0 0
theorem w_frames : about1.frames = Frame.invoking theMethod args0 :: below0 := rfl
set_option maxRecDepth 65536 in
theorem w_args : argsFit about1.vm theMethod args0 = true := by decide +kernel
set_option maxRecDepth 65536 in
theorem w_heap : heapFits about1 = true := by decide +kernel
set_option maxRecDepth 65536 in
theorem w_runnable : about1.curStatus? = some .runnable := by decide +kernel
set_option maxRecDepth 65536 in
theorem w_alone : about1.alone = true := by decide +kernel
set_option maxRecDepth 65536 in
theorem w_named : about1.methodNamed? x = some theMethod := by decide +kernel
set_option maxRecDepth 65536 in
theorem w_hears : about1.hears theMethod below0 = true := by decide +kernel
set_option maxRecDepth 65536 in
theorem w_ripe : about1.ripe theMethod args0 below0 = true := by decide +kernel
theorem w_running : about1.status = .running := rfl
set_option maxRecDepth 65536 in
theorem w_room : about1.hasRoom e0.platform room_1 = true :=
  launch0.hasRoom_least _ room_1 (by decide +kernel) (by decide +kernel) (by decide +kernel) (by decide +kernel) (by decide +kernel) (by decide +kernel)
theorem allAtoms_all (ts : List Jvm.Cond) (a : Array Jvm.Value) (st : Jvm.State) : (allAtoms ts).before a st = ts.all (fun c => c.before a st) := by
  induction ts with
  | nil => rfl
  | cons c t ih =>
    show (Jvm.Cond.and c (allAtoms t)).before a st = _
    rw [Jvm.Cond.before_and, ih, List.all_cons]
def words1 : List Jvm.Cond := Jvm.Cond.code x code maxLocals ret :: tables_1
/-- a 'code' word, met by the world's own term for the bytes: nothing is compared byte by byte -/
theorem code_word {y : MethodName} {bytes : ByteArray} {mx : Nat} {rt : Option FieldType} {a : Array Value} {s : State} {m : MethodId} {meth : Method} {c : Code} (h1 : s.methodNamed? y = some m) (h2 : s.vm.method? m = some meth) (h3 : meth.code = some c) (h4 : c.code = bytes)
    (h5 : (c.maxLocals == mx && c.exceptionTable.isEmpty && decide (c.maxStack ≤ mostOperands) && decide (meth.sig.returnType = rt) && !meth.locks && decide (parseMethodDescriptor y.desc = some meth.sig)) = true) : (Jvm.Cond.code y bytes mx rt).before a s = true := by
  simp only [Bool.and_eq_true, beq_iff_eq, Bool.not_eq_true', decide_eq_true_eq] at h5
  obtain ⟨⟨⟨⟨⟨g1, g2⟩, g3⟩, g4⟩, g5⟩, g6⟩ := h5
  simp [Cond.before, Cond.holds, Cond.value, h1, h2, h3, h4, g1, g2, g3, g4, g5, g6]
def isCode : Jvm.Cond → Bool
  | .code _ _ _ _ => true
  | _ => false
theorem all_split {L : List Jvm.Cond} {P : Jvm.Cond → Bool} (h1 : L.all (fun c => isCode c || P c) = true) (h2 : ∀ c ∈ L.filter isCode, P c = true) : L.all P = true := by
  refine List.all_eq_true.mpr fun c hc => ?_
  have h := List.all_eq_true.mp h1 c hc
  rcases Bool.eq_false_or_eq_true (isCode c) with hi | hi
  · exact h2 c (List.mem_filter.mpr ⟨hc, hi⟩)
  · simpa [hi] using h
set_option maxRecDepth 65536 in
theorem w_c0 : (Jvm.Cond.code x code maxLocals ret).before args0 about1 = true := code_word (m := ⟨1, 1⟩) (meth := k1m1) (c := k1c1) (by decide +kernel) rfl rfl rfl (by decide +kernel)
set_option maxRecDepth 65536 in
theorem w_c1 : (Jvm.Cond.code ({ cls := "com/example/naslov/naslov/UriJoinAuthorityPinLaw", name := "part", desc := "(ZII)Ljava/lang/String;" } : Jvm.MethodName) method_3_code (5 : Nat) (Option.some (Jvm.ClassFile.FieldType.object "java/lang/String"))).before args0 about1 = true := code_word (m := ⟨1, 2⟩) (meth := k1m2) (c := k1c2) (by decide +kernel) rfl rfl rfl (by decide +kernel)
set_option maxRecDepth 65536 in
theorem w_c2 : (Jvm.Cond.code ({ cls := "com/example/naslov/naslov/Uri", name := "joinAuthority", desc := "(Ljava/lang/String;Ljava/lang/String;Ljava/lang/String;)Ljava/lang/String;" } : Jvm.MethodName) prog_10_method_28_code (4 : Nat) (Option.some (Jvm.ClassFile.FieldType.object "java/lang/String"))).before args0 about1 = true := code_word (m := ⟨8, 0⟩) (meth := k8m0) (c := k8c0) (by decide +kernel) rfl rfl rfl (by decide +kernel)
set_option maxRecDepth 65536 in
theorem w_c3 : (Jvm.Cond.code ({ cls := "java/lang/StringBuilder", name := "<init>", desc := "()V" } : Jvm.MethodName) jdk_67_method_1_code (1 : Nat) (Option.none : Option Jvm.ClassFile.FieldType)).before args0 about1 = true := code_word (m := ⟨11, 0⟩) (meth := k11m0) (c := k11c0) (by decide +kernel) rfl rfl rfl (by decide +kernel)
set_option maxRecDepth 65536 in
theorem w_c4 : (Jvm.Cond.code ({ cls := "java/lang/AbstractStringBuilder", name := "<init>", desc := "(I)V" } : Jvm.MethodName) jdk_68_method_2_code (2 : Nat) (Option.none : Option Jvm.ClassFile.FieldType)).before args0 about1 = true := code_word (m := ⟨10, 1⟩) (meth := k10m1) (c := k10c1) (by decide +kernel) rfl rfl rfl (by decide +kernel)
set_option maxRecDepth 65536 in
theorem w_c5 : (Jvm.Cond.code ({ cls := "java/lang/Object", name := "<init>", desc := "()V" } : Jvm.MethodName) object_method_1_code (1 : Nat) (Option.none : Option Jvm.ClassFile.FieldType)).before args0 about1 = true := code_word (m := ⟨0, 0⟩) (meth := k0m0) (c := k0c0) (by decide +kernel) rfl rfl rfl (by decide +kernel)
set_option maxRecDepth 65536 in
theorem w_c6 : (Jvm.Cond.code ({ cls := "java/lang/StringBuilder", name := "append", desc := "(Ljava/lang/String;)Ljava/lang/StringBuilder;" } : Jvm.MethodName) jdk_67_method_7_code (2 : Nat) (Option.some (Jvm.ClassFile.FieldType.object "java/lang/StringBuilder"))).before args0 about1 = true := code_word (m := ⟨11, 1⟩) (meth := k11m1) (c := k11c1) (by decide +kernel) rfl rfl rfl (by decide +kernel)
set_option maxRecDepth 65536 in
theorem w_c7 : (Jvm.Cond.code ({ cls := "java/lang/AbstractStringBuilder", name := "append", desc := "(Ljava/lang/String;)Ljava/lang/AbstractStringBuilder;" } : Jvm.MethodName) jdk_68_method_22_code (3 : Nat) (Option.some (Jvm.ClassFile.FieldType.object "java/lang/AbstractStringBuilder"))).before args0 about1 = true := code_word (m := ⟨10, 5⟩) (meth := k10m5) (c := k10c5) (by decide +kernel) rfl rfl rfl (by decide +kernel)
set_option maxRecDepth 65536 in
theorem w_c8 : (Jvm.Cond.code ({ cls := "java/lang/String", name := "length", desc := "()I" } : Jvm.MethodName) jdk_42_method_54_code (1 : Nat) (Option.some Jvm.ClassFile.FieldType.int)).before args0 about1 = true := code_word (m := ⟨7, 3⟩) (meth := k7m3) (c := k7c3) (by decide +kernel) rfl rfl rfl (by decide +kernel)
set_option maxRecDepth 65536 in
theorem w_c9 : (Jvm.Cond.code ({ cls := "java/lang/String", name := "coder", desc := "()B" } : Jvm.MethodName) jdk_42_method_152_code (1 : Nat) (Option.some Jvm.ClassFile.FieldType.byte)).before args0 about1 = true := code_word (m := ⟨7, 10⟩) (meth := k7m10) (c := k7c10) (by decide +kernel) rfl rfl rfl (by decide +kernel)
set_option maxRecDepth 65536 in
theorem w_c10 : (Jvm.Cond.code ({ cls := "java/lang/AbstractStringBuilder", name := "ensureCapacityInternal", desc := "(I)V" } : Jvm.MethodName) jdk_68_method_9_code (3 : Nat) (Option.none : Option Jvm.ClassFile.FieldType)).before args0 about1 = true := code_word (m := ⟨10, 3⟩) (meth := k10m3) (c := k10c3) (by decide +kernel) rfl rfl rfl (by decide +kernel)
set_option maxRecDepth 65536 in
theorem w_c11 : (Jvm.Cond.code ({ cls := "java/lang/AbstractStringBuilder", name := "putStringAt", desc := "(ILjava/lang/String;)V" } : Jvm.MethodName) jdk_68_method_73_code (3 : Nat) (Option.none : Option Jvm.ClassFile.FieldType)).before args0 about1 = true := code_word (m := ⟨10, 10⟩) (meth := k10m10) (c := k10c10) (by decide +kernel) rfl rfl rfl (by decide +kernel)
set_option maxRecDepth 65536 in
theorem w_c12 : (Jvm.Cond.code ({ cls := "java/lang/AbstractStringBuilder", name := "inflateIfNeededFor", desc := "(Ljava/lang/String;)V" } : Jvm.MethodName) jdk_68_method_71_code (2 : Nat) (Option.none : Option Jvm.ClassFile.FieldType)).before args0 about1 = true := code_word (m := ⟨10, 9⟩) (meth := k10m9) (c := k10c9) (by decide +kernel) rfl rfl rfl (by decide +kernel)
set_option maxRecDepth 65536 in
theorem w_c13 : (Jvm.Cond.code ({ cls := "java/lang/String", name := "getBytes", desc := "([BIB)V" } : Jvm.MethodName) jdk_42_method_147_code (4 : Nat) (Option.none : Option Jvm.ClassFile.FieldType)).before args0 about1 = true := code_word (m := ⟨7, 6⟩) (meth := k7m6) (c := k7c6) (by decide +kernel) rfl rfl rfl (by decide +kernel)
set_option maxRecDepth 65536 in
theorem w_c14 : (Jvm.Cond.code ({ cls := "java/lang/StringBuilder", name := "append", desc := "(C)Ljava/lang/StringBuilder;" } : Jvm.MethodName) jdk_67_method_14_code (2 : Nat) (Option.some (Jvm.ClassFile.FieldType.object "java/lang/StringBuilder"))).before args0 about1 = true := code_word (m := ⟨11, 2⟩) (meth := k11m2) (c := k11c2) (by decide +kernel) rfl rfl rfl (by decide +kernel)
set_option maxRecDepth 65536 in
theorem w_c15 : (Jvm.Cond.code ({ cls := "java/lang/AbstractStringBuilder", name := "append", desc := "(C)Ljava/lang/AbstractStringBuilder;" } : Jvm.MethodName) jdk_68_method_31_code (2 : Nat) (Option.some (Jvm.ClassFile.FieldType.object "java/lang/AbstractStringBuilder"))).before args0 about1 = true := code_word (m := ⟨10, 6⟩) (meth := k10m6) (c := k10c6) (by decide +kernel) rfl rfl rfl (by decide +kernel)
set_option maxRecDepth 65536 in
theorem w_c16 : (Jvm.Cond.code ({ cls := "java/lang/AbstractStringBuilder", name := "isLatin1", desc := "()Z" } : Jvm.MethodName) jdk_68_method_68_code (1 : Nat) (Option.some Jvm.ClassFile.FieldType.boolean)).before args0 about1 = true := code_word (m := ⟨10, 8⟩) (meth := k10m8) (c := k10c8) (by decide +kernel) rfl rfl rfl (by decide +kernel)
set_option maxRecDepth 65536 in
theorem w_c17 : (Jvm.Cond.code ({ cls := "java/lang/StringLatin1", name := "canEncode", desc := "(C)Z" } : Jvm.MethodName) jdk_43_method_3_code (1 : Nat) (Option.some Jvm.ClassFile.FieldType.boolean)).before args0 about1 = true := code_word (m := ⟨13, 2⟩) (meth := k13m2) (c := k13c2) (by decide +kernel) rfl rfl rfl (by decide +kernel)
set_option maxRecDepth 65536 in
theorem w_c18 : (Jvm.Cond.code ({ cls := "java/lang/StringBuilder", name := "toString", desc := "()Ljava/lang/String;" } : Jvm.MethodName) jdk_67_method_42_code (1 : Nat) (Option.some (Jvm.ClassFile.FieldType.object "java/lang/String"))).before args0 about1 = true := code_word (m := ⟨11, 3⟩) (meth := k11m3) (c := k11c3) (by decide +kernel) rfl rfl rfl (by decide +kernel)
set_option maxRecDepth 65536 in
theorem w_c19 : (Jvm.Cond.code ({ cls := "java/lang/String", name := "<init>", desc := "(Ljava/lang/StringBuilder;)V" } : Jvm.MethodName) jdk_42_method_53_code (2 : Nat) (Option.none : Option Jvm.ClassFile.FieldType)).before args0 about1 = true := code_word (m := ⟨7, 2⟩) (meth := k7m2) (c := k7c2) (by decide +kernel) rfl rfl rfl (by decide +kernel)
set_option maxRecDepth 65536 in
theorem w_c20 : (Jvm.Cond.code ({ cls := "java/lang/String", name := "<init>", desc := "(Ljava/lang/AbstractStringBuilder;Ljava/lang/Void;)V" } : Jvm.MethodName) jdk_42_method_150_code (5 : Nat) (Option.none : Option Jvm.ClassFile.FieldType)).before args0 about1 = true := code_word (m := ⟨7, 8⟩) (meth := k7m8) (c := k7c8) (by decide +kernel) rfl rfl rfl (by decide +kernel)
set_option maxRecDepth 65536 in
theorem w_c21 : (Jvm.Cond.code ({ cls := "java/lang/AbstractStringBuilder", name := "getValue", desc := "()[B" } : Jvm.MethodName) jdk_68_method_64_code (1 : Nat) (Option.some (Jvm.ClassFile.FieldType.array Jvm.ClassFile.FieldType.byte))).before args0 about1 = true := code_word (m := ⟨10, 7⟩) (meth := k10m7) (c := k10c7) (by decide +kernel) rfl rfl rfl (by decide +kernel)
set_option maxRecDepth 65536 in
theorem w_c22 : (Jvm.Cond.code ({ cls := "java/lang/StringBuilder", name := "length", desc := "()I" } : Jvm.MethodName) jdk_67_method_93_code (1 : Nat) (Option.some Jvm.ClassFile.FieldType.int)).before args0 about1 = true := code_word (m := ⟨11, 4⟩) (meth := k11m4) (c := k11c4) (by decide +kernel) rfl rfl rfl (by decide +kernel)
set_option maxRecDepth 65536 in
theorem w_c23 : (Jvm.Cond.code ({ cls := "java/lang/AbstractStringBuilder", name := "length", desc := "()I" } : Jvm.MethodName) jdk_68_method_6_code (1 : Nat) (Option.some Jvm.ClassFile.FieldType.int)).before args0 about1 = true := code_word (m := ⟨10, 2⟩) (meth := k10m2) (c := k10c2) (by decide +kernel) rfl rfl rfl (by decide +kernel)
set_option maxRecDepth 65536 in
theorem w_c24 : (Jvm.Cond.code ({ cls := "java/util/Arrays", name := "copyOfRange", desc := "([BII)[B" } : Jvm.MethodName) jdk_65_method_132_code (3 : Nat) (Option.some (Jvm.ClassFile.FieldType.array Jvm.ClassFile.FieldType.byte))).before args0 about1 = true := code_word (m := ⟨14, 2⟩) (meth := k14m2) (c := k14c2) (by decide +kernel) rfl rfl rfl (by decide +kernel)
set_option maxRecDepth 65536 in
theorem w_c25 : (Jvm.Cond.code ({ cls := "java/util/Arrays", name := "copyOfRangeByte", desc := "([BII)[B" } : Jvm.MethodName) jdk_65_method_133_code (5 : Nat) (Option.some (Jvm.ClassFile.FieldType.array Jvm.ClassFile.FieldType.byte))).before args0 about1 = true := code_word (m := ⟨14, 3⟩) (meth := k14m3) (c := k14c3) (by decide +kernel) rfl rfl rfl (by decide +kernel)
set_option maxRecDepth 65536 in
theorem w_c26 : (Jvm.Cond.code ({ cls := "java/util/Arrays", name := "checkLength", desc := "(II)V" } : Jvm.MethodName) jdk_65_method_131_code (2 : Nat) (Option.none : Option Jvm.ClassFile.FieldType)).before args0 about1 = true := code_word (m := ⟨14, 1⟩) (meth := k14m1) (c := k14c1) (by decide +kernel) rfl rfl rfl (by decide +kernel)
set_option maxRecDepth 65536 in
theorem w_c27 : (Jvm.Cond.code ({ cls := "java/lang/Math", name := "min", desc := "(II)I" } : Jvm.MethodName) jdk_29_method_69_code (2 : Nat) (Option.some Jvm.ClassFile.FieldType.int)).before args0 about1 = true := code_word (m := ⟨15, 1⟩) (meth := k15m1) (c := k15c1) (by decide +kernel) rfl rfl rfl (by decide +kernel)
set_option maxRecDepth 65536 in
theorem w_c28 : (Jvm.Cond.code ({ cls := "com/example/naslov/naslov/UriJoinAuthorityPinLaw", name := "at", desc := "(Ljava/lang/String;IILjava/lang/String;Ljava/lang/String;Ljava/lang/String;)Z" } : Jvm.MethodName) method_4_code (6 : Nat) (Option.some Jvm.ClassFile.FieldType.boolean)).before args0 about1 = true := code_word (m := ⟨1, 3⟩) (meth := k1m3) (c := k1c3) (by decide +kernel) rfl rfl rfl (by decide +kernel)
set_option maxRecDepth 65536 in
theorem w_c29 : (Jvm.Cond.code ({ cls := "java/lang/String", name := "charAt", desc := "(I)C" } : Jvm.MethodName) jdk_42_method_56_code (2 : Nat) (Option.some Jvm.ClassFile.FieldType.char)).before args0 about1 = true := code_word (m := ⟨7, 4⟩) (meth := k7m4) (c := k7c4) (by decide +kernel) rfl rfl rfl (by decide +kernel)
set_option maxRecDepth 65536 in
theorem w_c30 : (Jvm.Cond.code ({ cls := "java/lang/String", name := "isLatin1", desc := "()Z" } : Jvm.MethodName) jdk_42_method_154_code (1 : Nat) (Option.some Jvm.ClassFile.FieldType.boolean)).before args0 about1 = true := code_word (m := ⟨7, 11⟩) (meth := k7m11) (c := k7c11) (by decide +kernel) rfl rfl rfl (by decide +kernel)
set_option maxRecDepth 65536 in
theorem w_c31 : (Jvm.Cond.code ({ cls := "java/lang/StringLatin1", name := "charAt", desc := "([BI)C" } : Jvm.MethodName) jdk_43_method_2_code (2 : Nat) (Option.some Jvm.ClassFile.FieldType.char)).before args0 about1 = true := code_word (m := ⟨13, 1⟩) (meth := k13m1) (c := k13c1) (by decide +kernel) rfl rfl rfl (by decide +kernel)
set_option maxRecDepth 65536 in
theorem w_c32 : (Jvm.Cond.code ({ cls := "java/lang/String", name := "checkIndex", desc := "(II)V" } : Jvm.MethodName) jdk_42_method_155_code (2 : Nat) (Option.none : Option Jvm.ClassFile.FieldType)).before args0 about1 = true := code_word (m := ⟨7, 12⟩) (meth := k7m12) (c := k7c12) (by decide +kernel) rfl rfl rfl (by decide +kernel)
set_option maxRecDepth 65536 in
theorem w_c33 : (Jvm.Cond.code ({ cls := "jdk/internal/util/Preconditions", name := "checkIndex", desc := "(IILjava/util/function/BiFunction;)I" } : Jvm.MethodName) jdk_41_method_11_code (3 : Nat) (Option.some Jvm.ClassFile.FieldType.int)).before args0 about1 = true := code_word (m := ⟨16, 1⟩) (meth := k16m1) (c := k16c1) (by decide +kernel) rfl rfl rfl (by decide +kernel)
set_option maxRecDepth 65536 in
theorem w_c34 : (Jvm.Cond.code ({ cls := "com/example/naslov/naslov/UriJoinAuthorityPinLaw", name := "expected", desc := "(ILjava/lang/String;Ljava/lang/String;Ljava/lang/String;)C" } : Jvm.MethodName) method_5_code (5 : Nat) (Option.some Jvm.ClassFile.FieldType.char)).before args0 about1 = true := code_word (m := ⟨1, 4⟩) (meth := k1m4) (c := k1c4) (by decide +kernel) rfl rfl rfl (by decide +kernel)
set_option maxRecDepth 65536 in
theorem w_c35 : (Jvm.Cond.code ({ cls := "java/lang/String", name := "valueOf", desc := "(C)Ljava/lang/String;" } : Jvm.MethodName) jdk_42_method_139_code (1 : Nat) (Option.some (Jvm.ClassFile.FieldType.object "java/lang/String"))).before args0 about1 = true := code_word (m := ⟨7, 5⟩) (meth := k7m5) (c := k7c5) (by decide +kernel) rfl rfl rfl (by decide +kernel)
set_option maxRecDepth 65536 in
theorem w_c36 : (Jvm.Cond.code ({ cls := "java/lang/StringLatin1", name := "toBytes", desc := "(C)[B" } : Jvm.MethodName) jdk_43_method_46_code (1 : Nat) (Option.some (Jvm.ClassFile.FieldType.array Jvm.ClassFile.FieldType.byte))).before args0 about1 = true := code_word (m := ⟨13, 3⟩) (meth := k13m3) (c := k13c3) (by decide +kernel) rfl rfl rfl (by decide +kernel)
set_option maxRecDepth 65536 in
theorem w_c37 : (Jvm.Cond.code ({ cls := "java/lang/String", name := "<init>", desc := "([BB)V" } : Jvm.MethodName) jdk_42_method_151_code (3 : Nat) (Option.none : Option Jvm.ClassFile.FieldType)).before args0 about1 = true := code_word (m := ⟨7, 9⟩) (meth := k7m9) (c := k7c9) (by decide +kernel) rfl rfl rfl (by decide +kernel)
set_option maxRecDepth 65536 in
theorem w_c38 : (Jvm.Cond.code ({ cls := "java/lang/String", name := "<init>", desc := "([C)V" } : Jvm.MethodName) jdk_42_method_3_code (2 : Nat) (Option.none : Option Jvm.ClassFile.FieldType)).before args0 about1 = true := code_word (m := ⟨7, 1⟩) (meth := k7m1) (c := k7c1) (by decide +kernel) rfl rfl rfl (by decide +kernel)
set_option maxRecDepth 65536 in
theorem w_c39 : (Jvm.Cond.code ({ cls := "java/lang/String", name := "<init>", desc := "([CIILjava/lang/Void;)V" } : Jvm.MethodName) jdk_42_method_149_code (6 : Nat) (Option.none : Option Jvm.ClassFile.FieldType)).before args0 about1 = true := code_word (m := ⟨7, 7⟩) (meth := k7m7) (c := k7c7) (by decide +kernel) rfl rfl rfl (by decide +kernel)
set_option maxRecDepth 65536 in
theorem w_c40 : (Jvm.Cond.code ({ cls := "java/lang/StringUTF16", name := "compress", desc := "([CII)[B" } : Jvm.MethodName) jdk_52_method_16_code (6 : Nat) (Option.some (Jvm.ClassFile.FieldType.array Jvm.ClassFile.FieldType.byte))).before args0 about1 = true := code_word (m := ⟨17, 8⟩) (meth := k17m8) (c := k17c8) (by decide +kernel) rfl rfl rfl (by decide +kernel)
set_option maxRecDepth 65536 in
theorem w_c41 : (Jvm.Cond.code ({ cls := "java/lang/StringUTF16", name := "compress", desc := "([CI[BII)I" } : Jvm.MethodName) jdk_52_method_21_code (7 : Nat) (Option.some Jvm.ClassFile.FieldType.int)).before args0 about1 = true := code_word (m := ⟨17, 9⟩) (meth := k17m9) (c := k17c9) (by decide +kernel) rfl rfl rfl (by decide +kernel)
set_option maxRecDepth 65536 in
theorem w_c42 : (Jvm.Cond.code ({ cls := "java/lang/StringUTF16", name := "toBytes", desc := "([CII)[B" } : Jvm.MethodName) jdk_52_method_14_code (5 : Nat) (Option.some (Jvm.ClassFile.FieldType.array Jvm.ClassFile.FieldType.byte))).before args0 about1 = true := code_word (m := ⟨17, 6⟩) (meth := k17m6) (c := k17c6) (by decide +kernel) rfl rfl rfl (by decide +kernel)
set_option maxRecDepth 65536 in
theorem w_c43 : (Jvm.Cond.code ({ cls := "java/lang/StringUTF16", name := "newBytesFor", desc := "(I)[B" } : Jvm.MethodName) jdk_52_method_2_code (1 : Nat) (Option.some (Jvm.ClassFile.FieldType.array Jvm.ClassFile.FieldType.byte))).before args0 about1 = true := code_word (m := ⟨17, 1⟩) (meth := k17m1) (c := k17c1) (by decide +kernel) rfl rfl rfl (by decide +kernel)
set_option maxRecDepth 65536 in
theorem w_c44 : (Jvm.Cond.code ({ cls := "java/lang/StringUTF16", name := "newBytesLength", desc := "(I)I" } : Jvm.MethodName) jdk_52_method_3_code (1 : Nat) (Option.some Jvm.ClassFile.FieldType.int)).before args0 about1 = true := code_word (m := ⟨17, 2⟩) (meth := k17m2) (c := k17c2) (by decide +kernel) rfl rfl rfl (by decide +kernel)
set_option maxRecDepth 65536 in
theorem w_c45 : (Jvm.Cond.code ({ cls := "java/lang/StringUTF16", name := "putChar", desc := "([BII)V" } : Jvm.MethodName) jdk_52_method_4_code (3 : Nat) (Option.none : Option Jvm.ClassFile.FieldType)).before args0 about1 = true := code_word (m := ⟨17, 3⟩) (meth := k17m3) (c := k17c3) (by decide +kernel) rfl rfl rfl (by decide +kernel)
set_option maxRecDepth 65536 in
theorem w_c46 : (Jvm.Cond.code ({ cls := "java/lang/StringUTF16", name := "getChar", desc := "([BI)C" } : Jvm.MethodName) jdk_52_method_5_code (2 : Nat) (Option.some Jvm.ClassFile.FieldType.char)).before args0 about1 = true := code_word (m := ⟨17, 4⟩) (meth := k17m4) (c := k17c4) (by decide +kernel) rfl rfl rfl (by decide +kernel)
set_option maxRecDepth 65536 in
theorem w_c47 : (Jvm.Cond.code ({ cls := "java/lang/StringUTF16", name := "coderFromArrayLen", desc := "([BI)B" } : Jvm.MethodName) jdk_52_method_15_code (2 : Nat) (Option.some Jvm.ClassFile.FieldType.byte)).before args0 about1 = true := code_word (m := ⟨17, 7⟩) (meth := k17m7) (c := k17c7) (by decide +kernel) rfl rfl rfl (by decide +kernel)
set_option maxRecDepth 65536 in
theorem w_c48 : (Jvm.Cond.code ({ cls := "java/lang/AbstractStringBuilder", name := "inflate", desc := "()V" } : Jvm.MethodName) jdk_68_method_11_code (2 : Nat) (Option.none : Option Jvm.ClassFile.FieldType)).before args0 about1 = true := code_word (m := ⟨10, 4⟩) (meth := k10m4) (c := k10c4) (by decide +kernel) rfl rfl rfl (by decide +kernel)
set_option maxRecDepth 65536 in
theorem w_c49 : (Jvm.Cond.code ({ cls := "java/lang/StringLatin1", name := "inflate", desc := "([BI[BII)V" } : Jvm.MethodName) jdk_43_method_50_code (5 : Nat) (Option.none : Option Jvm.ClassFile.FieldType)).before args0 about1 = true := code_word (m := ⟨13, 4⟩) (meth := k13m4) (c := k13c4) (by decide +kernel) rfl rfl rfl (by decide +kernel)
set_option maxRecDepth 65536 in
theorem w_c50 : (Jvm.Cond.code ({ cls := "java/lang/StringUTF16", name := "inflate", desc := "([BI[BII)V" } : Jvm.MethodName) jdk_52_method_86_code (6 : Nat) (Option.none : Option Jvm.ClassFile.FieldType)).before args0 about1 = true := code_word (m := ⟨17, 13⟩) (meth := k17m13) (c := k17c13) (by decide +kernel) rfl rfl rfl (by decide +kernel)
set_option maxRecDepth 65536 in
theorem w_c51 : (Jvm.Cond.code ({ cls := "java/lang/StringUTF16", name := "checkBoundsOffCount", desc := "(II[B)V" } : Jvm.MethodName) jdk_52_method_94_code (3 : Nat) (Option.none : Option Jvm.ClassFile.FieldType)).before args0 about1 = true := code_word (m := ⟨17, 15⟩) (meth := k17m15) (c := k17c15) (by decide +kernel) rfl rfl rfl (by decide +kernel)
set_option maxRecDepth 65536 in
theorem w_c52 : (Jvm.Cond.code ({ cls := "java/lang/StringUTF16", name := "length", desc := "([B)I" } : Jvm.MethodName) jdk_52_method_6_code (1 : Nat) (Option.some Jvm.ClassFile.FieldType.int)).before args0 about1 = true := code_word (m := ⟨17, 5⟩) (meth := k17m5) (c := k17c5) (by decide +kernel) rfl rfl rfl (by decide +kernel)
set_option maxRecDepth 65536 in
theorem w_c53 : (Jvm.Cond.code ({ cls := "java/lang/String", name := "checkBoundsOffCount", desc := "(III)I" } : Jvm.MethodName) jdk_42_method_157_code (3 : Nat) (Option.some Jvm.ClassFile.FieldType.int)).before args0 about1 = true := code_word (m := ⟨7, 13⟩) (meth := k7m13) (c := k7c13) (by decide +kernel) rfl rfl rfl (by decide +kernel)
set_option maxRecDepth 65536 in
theorem w_c54 : (Jvm.Cond.code ({ cls := "jdk/internal/util/Preconditions", name := "checkFromIndexSize", desc := "(IIILjava/util/function/BiFunction;)I" } : Jvm.MethodName) jdk_41_method_13_code (4 : Nat) (Option.some Jvm.ClassFile.FieldType.int)).before args0 about1 = true := code_word (m := ⟨16, 2⟩) (meth := k16m2) (c := k16c2) (by decide +kernel) rfl rfl rfl (by decide +kernel)
set_option maxRecDepth 65536 in
theorem w_c55 : (Jvm.Cond.code ({ cls := "java/lang/StringUTF16", name := "putCharSB", desc := "([BII)V" } : Jvm.MethodName) jdk_52_method_71_code (3 : Nat) (Option.none : Option Jvm.ClassFile.FieldType)).before args0 about1 = true := code_word (m := ⟨17, 11⟩) (meth := k17m11) (c := k17c11) (by decide +kernel) rfl rfl rfl (by decide +kernel)
set_option maxRecDepth 65536 in
theorem w_c56 : (Jvm.Cond.code ({ cls := "java/lang/StringUTF16", name := "checkIndex", desc := "(I[B)V" } : Jvm.MethodName) jdk_52_method_91_code (2 : Nat) (Option.none : Option Jvm.ClassFile.FieldType)).before args0 about1 = true := code_word (m := ⟨17, 14⟩) (meth := k17m14) (c := k17c14) (by decide +kernel) rfl rfl rfl (by decide +kernel)
set_option maxRecDepth 65536 in
theorem w_c57 : (Jvm.Cond.code ({ cls := "java/lang/StringUTF16", name := "charAt", desc := "([BI)C" } : Jvm.MethodName) jdk_52_method_83_code (2 : Nat) (Option.some Jvm.ClassFile.FieldType.char)).before args0 about1 = true := code_word (m := ⟨17, 12⟩) (meth := k17m12) (c := k17c12) (by decide +kernel) rfl rfl rfl (by decide +kernel)
set_option maxRecDepth 65536 in
theorem w_c58 : (Jvm.Cond.code ({ cls := "java/lang/StringUTF16", name := "toBytes", desc := "(C)[B" } : Jvm.MethodName) jdk_52_method_24_code (2 : Nat) (Option.some (Jvm.ClassFile.FieldType.array Jvm.ClassFile.FieldType.byte))).before args0 about1 = true := code_word (m := ⟨17, 10⟩) (meth := k17m10) (c := k17c10) (by decide +kernel) rfl rfl rfl (by decide +kernel)
def codes1 : List Jvm.Cond := [Jvm.Cond.code x code maxLocals ret, Jvm.Cond.code ({ cls := "com/example/naslov/naslov/UriJoinAuthorityPinLaw", name := "part", desc := "(ZII)Ljava/lang/String;" } : Jvm.MethodName) method_3_code (5 : Nat) (Option.some (Jvm.ClassFile.FieldType.object "java/lang/String")), Jvm.Cond.code ({ cls := "com/example/naslov/naslov/Uri", name := "joinAuthority", desc := "(Ljava/lang/String;Ljava/lang/String;Ljava/lang/String;)Ljava/lang/String;" } : Jvm.MethodName) prog_10_method_28_code (4 : Nat) (Option.some (Jvm.ClassFile.FieldType.object "java/lang/String")), Jvm.Cond.code ({ cls := "java/lang/StringBuilder", name := "<init>", desc := "()V" } : Jvm.MethodName) jdk_67_method_1_code (1 : Nat) (Option.none : Option Jvm.ClassFile.FieldType), Jvm.Cond.code ({ cls := "java/lang/AbstractStringBuilder", name := "<init>", desc := "(I)V" } : Jvm.MethodName) jdk_68_method_2_code (2 : Nat) (Option.none : Option Jvm.ClassFile.FieldType), Jvm.Cond.code ({ cls := "java/lang/Object", name := "<init>", desc := "()V" } : Jvm.MethodName) object_method_1_code (1 : Nat) (Option.none : Option Jvm.ClassFile.FieldType), Jvm.Cond.code ({ cls := "java/lang/StringBuilder", name := "append", desc := "(Ljava/lang/String;)Ljava/lang/StringBuilder;" } : Jvm.MethodName) jdk_67_method_7_code (2 : Nat) (Option.some (Jvm.ClassFile.FieldType.object "java/lang/StringBuilder")), Jvm.Cond.code ({ cls := "java/lang/AbstractStringBuilder", name := "append", desc := "(Ljava/lang/String;)Ljava/lang/AbstractStringBuilder;" } : Jvm.MethodName) jdk_68_method_22_code (3 : Nat) (Option.some (Jvm.ClassFile.FieldType.object "java/lang/AbstractStringBuilder")), Jvm.Cond.code ({ cls := "java/lang/String", name := "length", desc := "()I" } : Jvm.MethodName) jdk_42_method_54_code (1 : Nat) (Option.some Jvm.ClassFile.FieldType.int), Jvm.Cond.code ({ cls := "java/lang/String", name := "coder", desc := "()B" } : Jvm.MethodName) jdk_42_method_152_code (1 : Nat) (Option.some Jvm.ClassFile.FieldType.byte), Jvm.Cond.code ({ cls := "java/lang/AbstractStringBuilder", name := "ensureCapacityInternal", desc := "(I)V" } : Jvm.MethodName) jdk_68_method_9_code (3 : Nat) (Option.none : Option Jvm.ClassFile.FieldType), Jvm.Cond.code ({ cls := "java/lang/AbstractStringBuilder", name := "putStringAt", desc := "(ILjava/lang/String;)V" } : Jvm.MethodName) jdk_68_method_73_code (3 : Nat) (Option.none : Option Jvm.ClassFile.FieldType), Jvm.Cond.code ({ cls := "java/lang/AbstractStringBuilder", name := "inflateIfNeededFor", desc := "(Ljava/lang/String;)V" } : Jvm.MethodName) jdk_68_method_71_code (2 : Nat) (Option.none : Option Jvm.ClassFile.FieldType), Jvm.Cond.code ({ cls := "java/lang/String", name := "getBytes", desc := "([BIB)V" } : Jvm.MethodName) jdk_42_method_147_code (4 : Nat) (Option.none : Option Jvm.ClassFile.FieldType), Jvm.Cond.code ({ cls := "java/lang/StringBuilder", name := "append", desc := "(C)Ljava/lang/StringBuilder;" } : Jvm.MethodName) jdk_67_method_14_code (2 : Nat) (Option.some (Jvm.ClassFile.FieldType.object "java/lang/StringBuilder")), Jvm.Cond.code ({ cls := "java/lang/AbstractStringBuilder", name := "append", desc := "(C)Ljava/lang/AbstractStringBuilder;" } : Jvm.MethodName) jdk_68_method_31_code (2 : Nat) (Option.some (Jvm.ClassFile.FieldType.object "java/lang/AbstractStringBuilder")), Jvm.Cond.code ({ cls := "java/lang/AbstractStringBuilder", name := "isLatin1", desc := "()Z" } : Jvm.MethodName) jdk_68_method_68_code (1 : Nat) (Option.some Jvm.ClassFile.FieldType.boolean), Jvm.Cond.code ({ cls := "java/lang/StringLatin1", name := "canEncode", desc := "(C)Z" } : Jvm.MethodName) jdk_43_method_3_code (1 : Nat) (Option.some Jvm.ClassFile.FieldType.boolean), Jvm.Cond.code ({ cls := "java/lang/StringBuilder", name := "toString", desc := "()Ljava/lang/String;" } : Jvm.MethodName) jdk_67_method_42_code (1 : Nat) (Option.some (Jvm.ClassFile.FieldType.object "java/lang/String")), Jvm.Cond.code ({ cls := "java/lang/String", name := "<init>", desc := "(Ljava/lang/StringBuilder;)V" } : Jvm.MethodName) jdk_42_method_53_code (2 : Nat) (Option.none : Option Jvm.ClassFile.FieldType), Jvm.Cond.code ({ cls := "java/lang/String", name := "<init>", desc := "(Ljava/lang/AbstractStringBuilder;Ljava/lang/Void;)V" } : Jvm.MethodName) jdk_42_method_150_code (5 : Nat) (Option.none : Option Jvm.ClassFile.FieldType), Jvm.Cond.code ({ cls := "java/lang/AbstractStringBuilder", name := "getValue", desc := "()[B" } : Jvm.MethodName) jdk_68_method_64_code (1 : Nat) (Option.some (Jvm.ClassFile.FieldType.array Jvm.ClassFile.FieldType.byte)), Jvm.Cond.code ({ cls := "java/lang/StringBuilder", name := "length", desc := "()I" } : Jvm.MethodName) jdk_67_method_93_code (1 : Nat) (Option.some Jvm.ClassFile.FieldType.int), Jvm.Cond.code ({ cls := "java/lang/AbstractStringBuilder", name := "length", desc := "()I" } : Jvm.MethodName) jdk_68_method_6_code (1 : Nat) (Option.some Jvm.ClassFile.FieldType.int), Jvm.Cond.code ({ cls := "java/util/Arrays", name := "copyOfRange", desc := "([BII)[B" } : Jvm.MethodName) jdk_65_method_132_code (3 : Nat) (Option.some (Jvm.ClassFile.FieldType.array Jvm.ClassFile.FieldType.byte)), Jvm.Cond.code ({ cls := "java/util/Arrays", name := "copyOfRangeByte", desc := "([BII)[B" } : Jvm.MethodName) jdk_65_method_133_code (5 : Nat) (Option.some (Jvm.ClassFile.FieldType.array Jvm.ClassFile.FieldType.byte)), Jvm.Cond.code ({ cls := "java/util/Arrays", name := "checkLength", desc := "(II)V" } : Jvm.MethodName) jdk_65_method_131_code (2 : Nat) (Option.none : Option Jvm.ClassFile.FieldType), Jvm.Cond.code ({ cls := "java/lang/Math", name := "min", desc := "(II)I" } : Jvm.MethodName) jdk_29_method_69_code (2 : Nat) (Option.some Jvm.ClassFile.FieldType.int), Jvm.Cond.code ({ cls := "com/example/naslov/naslov/UriJoinAuthorityPinLaw", name := "at", desc := "(Ljava/lang/String;IILjava/lang/String;Ljava/lang/String;Ljava/lang/String;)Z" } : Jvm.MethodName) method_4_code (6 : Nat) (Option.some Jvm.ClassFile.FieldType.boolean), Jvm.Cond.code ({ cls := "java/lang/String", name := "charAt", desc := "(I)C" } : Jvm.MethodName) jdk_42_method_56_code (2 : Nat) (Option.some Jvm.ClassFile.FieldType.char), Jvm.Cond.code ({ cls := "java/lang/String", name := "isLatin1", desc := "()Z" } : Jvm.MethodName) jdk_42_method_154_code (1 : Nat) (Option.some Jvm.ClassFile.FieldType.boolean), Jvm.Cond.code ({ cls := "java/lang/StringLatin1", name := "charAt", desc := "([BI)C" } : Jvm.MethodName) jdk_43_method_2_code (2 : Nat) (Option.some Jvm.ClassFile.FieldType.char), Jvm.Cond.code ({ cls := "java/lang/String", name := "checkIndex", desc := "(II)V" } : Jvm.MethodName) jdk_42_method_155_code (2 : Nat) (Option.none : Option Jvm.ClassFile.FieldType), Jvm.Cond.code ({ cls := "jdk/internal/util/Preconditions", name := "checkIndex", desc := "(IILjava/util/function/BiFunction;)I" } : Jvm.MethodName) jdk_41_method_11_code (3 : Nat) (Option.some Jvm.ClassFile.FieldType.int), Jvm.Cond.code ({ cls := "com/example/naslov/naslov/UriJoinAuthorityPinLaw", name := "expected", desc := "(ILjava/lang/String;Ljava/lang/String;Ljava/lang/String;)C" } : Jvm.MethodName) method_5_code (5 : Nat) (Option.some Jvm.ClassFile.FieldType.char), Jvm.Cond.code ({ cls := "java/lang/String", name := "valueOf", desc := "(C)Ljava/lang/String;" } : Jvm.MethodName) jdk_42_method_139_code (1 : Nat) (Option.some (Jvm.ClassFile.FieldType.object "java/lang/String")), Jvm.Cond.code ({ cls := "java/lang/StringLatin1", name := "toBytes", desc := "(C)[B" } : Jvm.MethodName) jdk_43_method_46_code (1 : Nat) (Option.some (Jvm.ClassFile.FieldType.array Jvm.ClassFile.FieldType.byte)), Jvm.Cond.code ({ cls := "java/lang/String", name := "<init>", desc := "([BB)V" } : Jvm.MethodName) jdk_42_method_151_code (3 : Nat) (Option.none : Option Jvm.ClassFile.FieldType), Jvm.Cond.code ({ cls := "java/lang/String", name := "<init>", desc := "([C)V" } : Jvm.MethodName) jdk_42_method_3_code (2 : Nat) (Option.none : Option Jvm.ClassFile.FieldType), Jvm.Cond.code ({ cls := "java/lang/String", name := "<init>", desc := "([CIILjava/lang/Void;)V" } : Jvm.MethodName) jdk_42_method_149_code (6 : Nat) (Option.none : Option Jvm.ClassFile.FieldType), Jvm.Cond.code ({ cls := "java/lang/StringUTF16", name := "compress", desc := "([CII)[B" } : Jvm.MethodName) jdk_52_method_16_code (6 : Nat) (Option.some (Jvm.ClassFile.FieldType.array Jvm.ClassFile.FieldType.byte)), Jvm.Cond.code ({ cls := "java/lang/StringUTF16", name := "compress", desc := "([CI[BII)I" } : Jvm.MethodName) jdk_52_method_21_code (7 : Nat) (Option.some Jvm.ClassFile.FieldType.int), Jvm.Cond.code ({ cls := "java/lang/StringUTF16", name := "toBytes", desc := "([CII)[B" } : Jvm.MethodName) jdk_52_method_14_code (5 : Nat) (Option.some (Jvm.ClassFile.FieldType.array Jvm.ClassFile.FieldType.byte)), Jvm.Cond.code ({ cls := "java/lang/StringUTF16", name := "newBytesFor", desc := "(I)[B" } : Jvm.MethodName) jdk_52_method_2_code (1 : Nat) (Option.some (Jvm.ClassFile.FieldType.array Jvm.ClassFile.FieldType.byte)), Jvm.Cond.code ({ cls := "java/lang/StringUTF16", name := "newBytesLength", desc := "(I)I" } : Jvm.MethodName) jdk_52_method_3_code (1 : Nat) (Option.some Jvm.ClassFile.FieldType.int), Jvm.Cond.code ({ cls := "java/lang/StringUTF16", name := "putChar", desc := "([BII)V" } : Jvm.MethodName) jdk_52_method_4_code (3 : Nat) (Option.none : Option Jvm.ClassFile.FieldType), Jvm.Cond.code ({ cls := "java/lang/StringUTF16", name := "getChar", desc := "([BI)C" } : Jvm.MethodName) jdk_52_method_5_code (2 : Nat) (Option.some Jvm.ClassFile.FieldType.char), Jvm.Cond.code ({ cls := "java/lang/StringUTF16", name := "coderFromArrayLen", desc := "([BI)B" } : Jvm.MethodName) jdk_52_method_15_code (2 : Nat) (Option.some Jvm.ClassFile.FieldType.byte), Jvm.Cond.code ({ cls := "java/lang/AbstractStringBuilder", name := "inflate", desc := "()V" } : Jvm.MethodName) jdk_68_method_11_code (2 : Nat) (Option.none : Option Jvm.ClassFile.FieldType), Jvm.Cond.code ({ cls := "java/lang/StringLatin1", name := "inflate", desc := "([BI[BII)V" } : Jvm.MethodName) jdk_43_method_50_code (5 : Nat) (Option.none : Option Jvm.ClassFile.FieldType), Jvm.Cond.code ({ cls := "java/lang/StringUTF16", name := "inflate", desc := "([BI[BII)V" } : Jvm.MethodName) jdk_52_method_86_code (6 : Nat) (Option.none : Option Jvm.ClassFile.FieldType), Jvm.Cond.code ({ cls := "java/lang/StringUTF16", name := "checkBoundsOffCount", desc := "(II[B)V" } : Jvm.MethodName) jdk_52_method_94_code (3 : Nat) (Option.none : Option Jvm.ClassFile.FieldType), Jvm.Cond.code ({ cls := "java/lang/StringUTF16", name := "length", desc := "([B)I" } : Jvm.MethodName) jdk_52_method_6_code (1 : Nat) (Option.some Jvm.ClassFile.FieldType.int), Jvm.Cond.code ({ cls := "java/lang/String", name := "checkBoundsOffCount", desc := "(III)I" } : Jvm.MethodName) jdk_42_method_157_code (3 : Nat) (Option.some Jvm.ClassFile.FieldType.int), Jvm.Cond.code ({ cls := "jdk/internal/util/Preconditions", name := "checkFromIndexSize", desc := "(IIILjava/util/function/BiFunction;)I" } : Jvm.MethodName) jdk_41_method_13_code (4 : Nat) (Option.some Jvm.ClassFile.FieldType.int), Jvm.Cond.code ({ cls := "java/lang/StringUTF16", name := "putCharSB", desc := "([BII)V" } : Jvm.MethodName) jdk_52_method_71_code (3 : Nat) (Option.none : Option Jvm.ClassFile.FieldType), Jvm.Cond.code ({ cls := "java/lang/StringUTF16", name := "checkIndex", desc := "(I[B)V" } : Jvm.MethodName) jdk_52_method_91_code (2 : Nat) (Option.none : Option Jvm.ClassFile.FieldType), Jvm.Cond.code ({ cls := "java/lang/StringUTF16", name := "charAt", desc := "([BI)C" } : Jvm.MethodName) jdk_52_method_83_code (2 : Nat) (Option.some Jvm.ClassFile.FieldType.char), Jvm.Cond.code ({ cls := "java/lang/StringUTF16", name := "toBytes", desc := "(C)[B" } : Jvm.MethodName) jdk_52_method_24_code (2 : Nat) (Option.some (Jvm.ClassFile.FieldType.array Jvm.ClassFile.FieldType.byte))]
set_option maxRecDepth 65536 in
theorem codes_eq : words1.filter isCode = codes1 := rfl
theorem w_codes : ∀ c ∈ words1.filter isCode, c.before args0 about1 = true := by
  rw [codes_eq]
  intro c hc
  simp only [codes1, List.mem_cons, List.not_mem_nil, or_false] at hc
  rcases hc with rfl | rfl | rfl | rfl | rfl | rfl | rfl | rfl | rfl | rfl | rfl | rfl | rfl | rfl | rfl | rfl | rfl | rfl | rfl | rfl | rfl | rfl | rfl | rfl | rfl | rfl | rfl | rfl | rfl | rfl | rfl | rfl | rfl | rfl | rfl | rfl | rfl | rfl | rfl | rfl | rfl | rfl | rfl | rfl | rfl | rfl | rfl | rfl | rfl | rfl | rfl | rfl | rfl | rfl | rfl | rfl | rfl | rfl | rfl
  · exact w_c0
  · exact w_c1
  · exact w_c2
  · exact w_c3
  · exact w_c4
  · exact w_c5
  · exact w_c6
  · exact w_c7
  · exact w_c8
  · exact w_c9
  · exact w_c10
  · exact w_c11
  · exact w_c12
  · exact w_c13
  · exact w_c14
  · exact w_c15
  · exact w_c16
  · exact w_c17
  · exact w_c18
  · exact w_c19
  · exact w_c20
  · exact w_c21
  · exact w_c22
  · exact w_c23
  · exact w_c24
  · exact w_c25
  · exact w_c26
  · exact w_c27
  · exact w_c28
  · exact w_c29
  · exact w_c30
  · exact w_c31
  · exact w_c32
  · exact w_c33
  · exact w_c34
  · exact w_c35
  · exact w_c36
  · exact w_c37
  · exact w_c38
  · exact w_c39
  · exact w_c40
  · exact w_c41
  · exact w_c42
  · exact w_c43
  · exact w_c44
  · exact w_c45
  · exact w_c46
  · exact w_c47
  · exact w_c48
  · exact w_c49
  · exact w_c50
  · exact w_c51
  · exact w_c52
  · exact w_c53
  · exact w_c54
  · exact w_c55
  · exact w_c56
  · exact w_c57
  · exact w_c58
set_option maxRecDepth 65536 in
theorem w_t1 : (words1.take 24).all (fun c => isCode c || c.before args0 about1) = true := by decide +kernel
set_option maxRecDepth 65536 in
theorem w_t2 : ((words1.drop 24).take 24).all (fun c => isCode c || c.before args0 about1) = true := by decide +kernel
set_option maxRecDepth 65536 in
theorem w_t3 : (((words1.drop 24).drop 24).take 24).all (fun c => isCode c || c.before args0 about1) = true := by decide +kernel
set_option maxRecDepth 65536 in
theorem w_t4 : ((((words1.drop 24).drop 24).drop 24).take 24).all (fun c => isCode c || c.before args0 about1) = true := by decide +kernel
set_option maxRecDepth 65536 in
theorem w_t5 : (((((words1.drop 24).drop 24).drop 24).drop 24).take 24).all (fun c => isCode c || c.before args0 about1) = true := by decide +kernel
set_option maxRecDepth 65536 in
theorem w_t6 : ((((((words1.drop 24).drop 24).drop 24).drop 24).drop 24).take 24).all (fun c => isCode c || c.before args0 about1) = true := by decide +kernel
set_option maxRecDepth 65536 in
theorem w_t7 : (((((((words1.drop 24).drop 24).drop 24).drop 24).drop 24).drop 24).take 24).all (fun c => isCode c || c.before args0 about1) = true := by decide +kernel
set_option maxRecDepth 65536 in
theorem w_t8 : ((((((((words1.drop 24).drop 24).drop 24).drop 24).drop 24).drop 24).drop 24).take 24).all (fun c => isCode c || c.before args0 about1) = true := by decide +kernel
set_option maxRecDepth 65536 in
theorem w_t9 : (((((((((words1.drop 24).drop 24).drop 24).drop 24).drop 24).drop 24).drop 24).drop 24).take 24).all (fun c => isCode c || c.before args0 about1) = true := by decide +kernel
set_option maxRecDepth 65536 in
theorem w_t10 : ((((((((((words1.drop 24).drop 24).drop 24).drop 24).drop 24).drop 24).drop 24).drop 24).drop 24).take 24).all (fun c => isCode c || c.before args0 about1) = true := by decide +kernel
set_option maxRecDepth 65536 in
theorem w_t11 : ((((((((((words1.drop 24).drop 24).drop 24).drop 24).drop 24).drop 24).drop 24).drop 24).drop 24).drop 24).all (fun c => isCode c || c.before args0 about1) = true := by decide +kernel
theorem w_tables : (allAtoms (Jvm.Cond.code x code maxLocals ret :: tables_1)).before args0 about1 = true := by
  rw [allAtoms_all]
  show words1.all (fun c => c.before args0 about1) = true
  refine all_split ?_ w_codes
  rw [← List.take_append_drop 24 words1, List.all_append, w_t1, ← List.take_append_drop 24 (words1.drop 24), List.all_append, w_t2, ← List.take_append_drop 24 ((words1.drop 24).drop 24), List.all_append, w_t3, ← List.take_append_drop 24 (((words1.drop 24).drop 24).drop 24), List.all_append, w_t4, ← List.take_append_drop 24 ((((words1.drop 24).drop 24).drop 24).drop 24), List.all_append, w_t5, ← List.take_append_drop 24 (((((words1.drop 24).drop 24).drop 24).drop 24).drop 24), List.all_append, w_t6, ← List.take_append_drop 24 ((((((words1.drop 24).drop 24).drop 24).drop 24).drop 24).drop 24), List.all_append, w_t7, ← List.take_append_drop 24 (((((((words1.drop 24).drop 24).drop 24).drop 24).drop 24).drop 24).drop 24), List.all_append, w_t8, ← List.take_append_drop 24 ((((((((words1.drop 24).drop 24).drop 24).drop 24).drop 24).drop 24).drop 24).drop 24), List.all_append, w_t9, ← List.take_append_drop 24 (((((((((words1.drop 24).drop 24).drop 24).drop 24).drop 24).drop 24).drop 24).drop 24).drop 24), List.all_append, w_t10, w_t11]
  rfl
set_option maxRecDepth 65536 in
theorem w_rest : rest_1_c.before args0 about1 = true := by decide +kernel
set_option maxRecDepth 65536 in
theorem w_case : (Jvm.Cond.and given_1 narrow_1).before args0 about1 = true := by decide +kernel
set_option maxRecDepth 65536 in
theorem w_consts : constsHeld consts_1 about1 := Jvm.Lit.constsHeldB_iff.mp (by decide +kernel)
theorem w_applies : (headSpec (Jvm.Cond.code x code maxLocals ret :: tables_1) room_1).applies x e0.platform about1 = true :=
  (Spec.applies_iff w_frames).mpr ⟨w_running, w_runnable, w_alone, w_named, w_hears, w_ripe, w_room, w_tables⟩
theorem atStart : AtStart classFile x code maxLocals ret World_1 tables_1 room_1 Calls_1 rest_1 Pre_1 launch0 p0 e0 about1 theMethod args0 below0 :=
  ⟨lists_1, trivial, launch0.admits_env _ _ _, launch0.least_env, fairChoices_fair.cas, fairChoices_fair.clock, w_frames, w_args, w_heap, w_applies, ⟨w_consts, trivial⟩, w_rest, w_case⟩
end start1
theorem witness_1 : WitnessClaimed_1 := ⟨start1.p0, start1.e0, start1.about1, start1.theMethod, start1.args0, start1.below0, start1.atStart⟩
end Jvm.Pilot.@@N@@
