import JvmDerived
import JvmDerived.Pilot.@@N@@Statement
import JvmDerived.Pilot.@@N@@Code
set_option linter.unusedVariables false
set_option linter.unusedSimpArgs false
@@BLOCK:NumsL.lean.txt@@
namespace Jvm.Pilot.@@N@@
open Jvm Jvm.ClassFile Sem Op Lib Jvm.Free Jvm.Stand Jvm.LawKit Jvm.RoadKit Bundle Jvm.Pilot.@@N@@.Jvm.D
/-- from here the run returns, with Q -/
def Go (p : Program) (e : Env) (below : List Frame) (F : Outcome → State → List Loc → Prop) (Q : Option Value → Heap → List Loc → Prop) (T : State) (g : JFrame) : Prop :=
  ∃ s₂ o, Steps p.tables e below (T.setTop g) s₂ ∧ s₂.status = .running ∧ Ended s₂ below o ∧ ∃ v L, o = .returned v ∧ Q v s₂.heap L ∧ F o s₂ L
section OwnGo
variable {p : Program} {l : Launch} {e : Env} {R : Room} {s : State} {m : MethodId} {args : Array Value} {below : List Frame} {meth : Method} {c : Code} {T T' : State} {locs : List Loc} {cells slots C S : Nat} {F : Outcome → State → List Loc → Prop} {Q : Option Value → Heap → List Loc → Prop} {g g' : JFrame}
theorem Go.of (h : ∀ t, Steps p.tables e below (T'.setTop g') t → Steps p.tables e below (T.setTop g) t) (k : Go p e below F Q T' g') : Go p e below F Q T g := by
  obtain ⟨s₂, o, h1, r⟩ := k
  exact ⟨s₂, o, h _ h1, r⟩
theorem Go.ret (X : Stand p l e R s m args below meth c T locs cells slots) {v : Option Value} (hv : meth.sig.returnType = none → v = none) (hlocks : meth.locks = false)
    (hstep : ∀ fs, (∀ (f : JFrame) (acts : List Action), f.method = m → f.locked = none → f.entered = [] → (doReturn e (T.setTop f) acts v).1 = T.setFrames fs) → Steps p.tables e below (T.setTop g) (T.setFrames fs))
    (hC : cells ≤ C) (hS : slots ≤ S) (hQ : Q v T.heap locs) : Go p e below (fun o t L => FrameEnd s o t L C S) Q T g := by
  obtain ⟨fs, hr, hrun, hended, hW, hsame⟩ := X.leave hv hlocks
  exact ⟨_, _, hstep fs hr, hrun, hended, _, _, rfl, hQ, ⟨_, rfl⟩, hW, hsame.mono hC hS⟩
end OwnGo
section OwnCalls
variable {p : Program} {l : Launch} {e : Env} {R : Room} {s : State} {m : MethodId} {args : Array Value} {below : List Frame} {meth : Method} {c : Code} {T : State} {locs : List Loc} {cells slots : Nat} {F : Outcome → State → List Loc → Prop} {Q : Option Value → Heap → List Loc → Prop} {Z : State} {a0 : Array Value} {h : Heap} {y : MethodName} {own : String} {index : Nat} {bytes : ByteArray} {maxL : Nat} {ret : Option FieldType} {rm : Room} {as' : Array Value} {Q' : Option Value → Heap → List Loc → Prop} {pc : Nat} {Ls : Array Slot} {stk argsL rest : List Value} {c2 s2 : Nat}
theorem Go.callS (X : Stand p l e R s m args below meth c T locs cells slots) (hx : p.tables.exec = Jvm.exec) (hZ : Z.Warmed39 s.vm) (hown : s.vm.findClass own = some m.cls) (w1 : (Cond.methodLink own index y).before a0 Z = true) (w2 : (Cond.static y).before a0 Z = true) (w3 : (Cond.initialized y.cls).before a0 Z = true) (w4 : (Cond.code y bytes maxL ret).before a0 Z = true) (hy : y.cls ≠ "java/lang/invoke/MethodHandle" ∧ y.cls ≠ "java/lang/invoke/VarHandle")
    (hM : MetFree l y (head1 [Cond.code y bytes maxL ret] rm) (fun a U => a = as' ∧ Z.Warmed39 U.vm ∧ U.heap = h) (fun _ _ _ _ _ => True) (fun _ U o U' => ∃ v L, o = .returned v ∧ Q' v U'.heap L ∧ FrameEnd U o U' L rm.cells rm.slots)) (eT : T.heap = h) (W : Nat) (hf : rm.frames + 1 ≤ R.frames) (hl : W + (maxL + 11) + rm.locals ≤ R.locals)
    (hsize : Ls.size = c.maxLocals) (hlen : ∀ sig, parseMethodDescriptor y.desc = some sig → argsL.length = sig.parameters.length) (hstk : stk = argsL.reverse ++ rest) (has : argsL.toArray = as') (hW : (rest.map fun v => v.category).sum ≤ W) (hd : decode c.code pc = .ok (.invokestatic index, 3)) (hc2 : cells + rm.cells = c2) (hs2 : slots + rm.slots = s2) (hc : c2 ≤ R.cells) (hs : s2 ≤ R.slots)
    (k : ∀ v T' L L', Stand p l e R s m args below meth c T' L' c2 s2 → L' = locs ++ L → Q' v T'.heap L → Go p e below F Q T' (mkF m (pc + 3) Ls (v.toList ++ rest))) : Go p e below F Q T (mkF m pc Ls stk) := by
  subst hc2 hs2
  obtain ⟨v, vm1, B, -, X', ⟨L, hQ, h1, h2, h3⟩, st⟩ := Jvm.LawKit.callS X hx hown (mvT hZ w1) (mvT hZ w2) (mvT hZ w3) (mvT hZ w4) hy (backOf (W := W) hM hZ w4 w3 hf hl) (g := mkF m pc Ls stk) rfl hsize (argsL := argsL) (rest := rest) hlen hstk (by show 2 * 0 + _ ≤ _; omega) hd (fun _ _ => ⟨has, eT, hc, hs⟩)
  exact Go.of (fun t kz => st t kz) (k v B.U L B.locs (by rw [← h2, ← h3]; exact X') h1 hQ)
theorem Go.callI (X : Stand p l e R s m args below meth c T locs cells slots) (hx : p.tables.exec = Jvm.exec) (hZ : Z.Warmed39 s.vm) (hown : s.vm.findClass own = some m.cls) (hy1 : y.name = "<init>") (w1 : (Cond.methodLink own index y).before a0 Z = true) (w2 : (Cond.instanceMethod y).before a0 Z = true) (w3 : (Cond.initialized y.cls).before a0 Z = true) (w4 : (Cond.code y bytes maxL none).before a0 Z = true) (hy : y.cls ≠ "java/lang/invoke/MethodHandle" ∧ y.cls ≠ "java/lang/invoke/VarHandle") {a : Addr}
    (hM : MetFree l y (head1 [Cond.code y bytes maxL none] rm) (fun a U => a = as' ∧ Z.Warmed39 U.vm ∧ U.heap = h) (fun _ _ _ _ _ => True) (fun _ U o U' => ∃ v L, o = .returned v ∧ Q' v U'.heap L ∧ FrameEnd U o U' L rm.cells rm.slots)) (eT : T.heap = h) (W : Nat) (hf : rm.frames + 1 ≤ R.frames) (hl : W + (maxL + 11) + rm.locals ≤ R.locals)
    (hsize : Ls.size = c.maxLocals) (hlen : ∀ sig, parseMethodDescriptor y.desc = some sig → argsL.length = sig.parameters.length) (hstk : stk = argsL.reverse ++ .ref a :: rest) (has : (.ref a :: argsL).toArray = as') (hW : (rest.map fun v => v.category).sum ≤ W) (hd : decode c.code pc = .ok (.invokespecial index, 3)) (hc2 : cells + rm.cells = c2) (hs2 : slots + rm.slots = s2) (hc : c2 ≤ R.cells) (hs : s2 ≤ R.slots)
    (k : ∀ v T' L L', Stand p l e R s m args below meth c T' L' c2 s2 → L' = locs ++ L → Q' v T'.heap L → Go p e below F Q T' (mkF m (pc + 3) Ls (v.toList ++ rest))) : Go p e below F Q T (mkF m pc Ls stk) := by
  subst hc2 hs2
  obtain ⟨v, vm1, B, -, X', ⟨L, hQ, h1, h2, h3⟩, st⟩ := X.specialBack hx hy1 hown (mvT hZ w1) (mvT hZ w2) (mvT hZ w4) hy (backOf (W := W) hM hZ w4 w3 hf hl) (g := mkF m pc Ls stk) rfl hsize (Steps.refl _) (a := a) (argsL := argsL) (rest := rest) hlen hstk (by show 2 * 0 + _ ≤ _; omega) hd (fun _ _ => ⟨has, eT, hc, hs⟩)
  exact Go.of (fun t kz => st.trans kz) (k v B.U L B.locs (by rw [← h2, ← h3]; exact X') h1 hQ)
theorem Go.callV (X : Stand p l e R s m args below meth c T locs cells slots) (hx : p.tables.exec = Jvm.exec) (hZ : Z.Warmed39 s.vm) (hown : s.vm.findClass own = some m.cls) {K : String} {z : MethodName} (w1 : (Cond.methodLink own index y).before a0 Z = true) (w2 : (Cond.declares y).before a0 Z = true) (nf : NotFace s y) (w5 : (Cond.selects K y z).before a0 Z = true) (w6 : (Cond.instanceMethod z).before a0 Z = true) (w3 : (Cond.initialized z.cls).before a0 Z = true) (w4 : (Cond.code z bytes maxL ret).before a0 Z = true) (hy : y.cls ≠ "java/lang/invoke/MethodHandle" ∧ y.cls ≠ "java/lang/invoke/VarHandle") {a : Addr}
    (hM : MetFree l z (head1 [Cond.code z bytes maxL ret] rm) (fun a U => a = as' ∧ Z.Warmed39 U.vm ∧ U.heap = h) (fun _ _ _ _ _ => True) (fun _ U o U' => ∃ v L, o = .returned v ∧ Q' v U'.heap L ∧ FrameEnd U o U' L rm.cells rm.slots)) (eT : T.heap = h) (E : Exa Z h a K) (W : Nat) (hf : rm.frames + 1 ≤ R.frames) (hl : W + (maxL + 11) + rm.locals ≤ R.locals)
    (hsize : Ls.size = c.maxLocals) (hlen : ∀ sig, parseMethodDescriptor y.desc = some sig → argsL.length = sig.parameters.length) (hstk : stk = argsL.reverse ++ .ref a :: rest) (has : (.ref a :: argsL).toArray = as') (hW : (rest.map fun v => v.category).sum ≤ W) (hd : decode c.code pc = .ok (.invokevirtual index, 3)) (hc2 : cells + rm.cells = c2) (hs2 : slots + rm.slots = s2) (hc : c2 ≤ R.cells) (hs : s2 ≤ R.slots)
    (k : ∀ v T' L L', Stand p l e R s m args below meth c T' L' c2 s2 → L' = locs ++ L → Q' v T'.heap L → Go p e below F Q T' (mkF m (pc + 3) Ls (v.toList ++ rest))) : Go p e below F Q T (mkF m pc Ls stk) := by
  subst hc2 hs2
  obtain ⟨cq, kq, qa, qb, qc⟩ := isOf hZ eT E
  obtain ⟨v, vm1, B, -, X', ⟨L, hQ, h1, h2, h3⟩, st⟩ := X.virtualBack hx hown (mvT hZ w1) (mvT hZ w2) nf (mvT hZ w5) (mvT hZ w6) hy (backOf (W := W) hM hZ w4 w3 hf hl) qa qc (g := mkF m pc Ls stk) rfl hsize (Steps.refl _) (argsL := argsL) (rest := rest) hlen hstk (by show 2 * 0 + _ ≤ _; omega) hd (fun _ _ => ⟨has, eT, hc, hs⟩)
  exact Go.of (fun t kz => st.trans kz) (k v B.U L B.locs (by rw [← h2, ← h3]; exact X') h1 hQ)
theorem Go.getS {R0 O n d host : String} (X : Stand p l e R s m args below meth c T locs cells slots) (hx : p.tables.exec = Jvm.exec) (hZ : Z.Warmed39 s.vm) (hown : s.vm.findClass own = some m.cls) (w : (Cond.fieldLink own index R0 n d).before a0 Z = true ∨ (Cond.fieldLinkNest own index R0 n d host).before a0 Z = true) (via : Via Z R0 O n d) (eT : T.heap = h) {v : Value} (FF : Sta Z h O n d v) (hd : decode c.code pc = .ok (.getstatic index, 3))
    (k : ∀ T', Stand p l e R s m args below meth c T' locs cells slots → T'.heap = h → Go p e below F Q T' (mkF m (pc + 3) Ls (v :: stk))) : Go p e below F Q T (mkF m pc Ls stk) := by
  obtain ⟨T', X', e', st⟩ := getS2 X hx hZ hown w via eT FF (g := mkF m pc Ls stk) rfl hd
  exact Go.of (fun t kz => st t kz) (k T' X' e')
theorem Go.getF {R0 O n d host : String} (X : Stand p l e R s m args below meth c T locs cells slots) (hx : p.tables.exec = Jvm.exec) (hZ : Z.Warmed39 s.vm) (hown : s.vm.findClass own = some m.cls) (w : (Cond.fieldLink own index R0 n d).before a0 Z = true ∨ (Cond.fieldLinkNest own index R0 n d host).before a0 Z = true) (via : Via Z R0 O n d) (eT : T.heap = h) {a : Addr} {v : Value} (FF : Fld Z h a O n d v) (hd : decode c.code pc = .ok (.getfield index, 3))
    (k : ∀ T', Stand p l e R s m args below meth c T' locs cells slots → T'.heap = h → Go p e below F Q T' (mkF m (pc + 3) Ls (v :: stk))) : Go p e below F Q T (mkF m pc Ls (.ref a :: stk)) := by
  obtain ⟨T', X', e', st⟩ := Jvm.RoadKit.getF X hx hZ hown w via eT FF (g := mkF m pc Ls (.ref a :: stk)) rfl rfl hd
  exact Go.of (fun t kz => st t kz) (k T' X' e')
end OwnCalls
section OwnWide
variable {p : Program} {l : Launch} {e : Env} {R : Room} {s : State} {vm0 : Vm} {m : MethodId} {args : Array Value} {below : List Frame} {meth : Method} {c : Code} {T : State} {locs : List Loc} {cells slots C S : Nat} {F : Outcome → State → List Loc → Prop} {Q : Option Value → Heap → List Loc → Prop} {Z : State} {a0 : Array Value} {h : Heap} {y : MethodName} {own : String} {index : Nat} {bytes : ByteArray} {maxL : Nat} {ret : Option FieldType} {rm : Room} {as' : Array Value} {Q' : Option Value → Heap → List Loc → Prop} {pc : Nat} {Ls : Array Slot} {stk argsL rest : List Value} {c2 s2 k0 : Nat} {EL : List (String × Nat)} {SL : List Addr} {g : JFrame}
/-- the return of a walk that may have loaded String constants -/
theorem Go.retW (X : Stand p l e R (s.setVm vm0) m args below meth c T locs cells slots) (hZ : Z.Warmed39 vm0) (hEL : EW Z a0 EL) {k1 : Nat} (hS : s.Since vm0 k1) (hk : k1 ≤ h.size) (eT : T.heap = h) {h0 : Heap} (hh : s.heap = h0) (hR : CHr Z EL s.vm h0 vm0 h) {v : Option Value} (hv : meth.sig.returnType = none → v = none) (hlocks : meth.locks = false)
    (hstep : ∀ fs, (∀ (f : JFrame) (acts : List Action), f.method = m → f.locked = none → f.entered = [] → (doReturn e (T.setTop f) acts v).1 = T.setFrames fs) → Steps p.tables e below (T.setTop g) (T.setFrames fs))
    (hC : cells ≤ C) (hSl : slots ≤ S) (hQ : Q v T.heap locs) : Go p e below (fun o t L => CHr Z EL s.vm s.heap t.vm t.heap ∧ ReturnedEndW s o t L C S) Q T g := by
  obtain ⟨fs, hr, hrun, hended, q1, q2, q3, q4⟩ := X.leaveW hS (by rw [eT]; exact hk) hv hlocks
  refine ⟨_, _, hstep fs hr, hrun, hended, _, _, rfl, hQ, ?_, q1, q2, q3, q4.mono hC hSl⟩
  show CHr Z EL s.vm s.heap T.vm T.heap
  rw [eT, hh]
  exact hR.trans (CHv.at X hZ hEL hR.1)
theorem own_backSH {len W : Nat}
    (hM : MetFree l y (head1 [Cond.code y bytes maxL ret] rm) (fun a U => a = as' ∧ Z.Warmed39 U.vm ∧ U.heap = h ∧ CHv Z EL U.vm h ∧ ∀ x ∈ SL, Safe Z EL U.vm h x) (fun _ _ _ _ _ => True) (fun _ U o U' => ∃ v L, o = .returned v ∧ Q' v U'.heap L ∧ CHr Z EL U.vm U.heap U'.vm U'.heap ∧ ReturnedEndW U o U' L rm.cells rm.slots))
    (hZ : Z.Warmed39 vm0) (wc : (Cond.code y bytes maxL ret).before a0 Z = true) (wz : (Cond.initialized y.cls).before a0 Z = true) (hf : rm.frames + 1 ≤ R.frames) (hl : W + (maxL + 11) + rm.locals ≤ R.locals) (hEL : EW Z a0 EL) (H : CHv Z EL vm0 h) (hSL : ∀ x ∈ SL, x < h.size ∧ Safe Z EL vm0 h x) :
    BackS l R p e below (s.setVm vm0) args y len W (fun A a => a = as' ∧ A.U.heap = h ∧ A.cells + rm.cells ≤ R.cells ∧ A.slots + rm.slots ≤ R.slots)
      (fun A _ v B => ∃ L, Q' v B.U.heap L ∧ B.locs = A.locs ++ L ∧ B.cells = A.cells + rm.cells ∧ B.slots = A.slots + rm.slots ∧ CHr Z EL vm0 h B.U.vm B.U.heap) :=
  BackS.of_freeW (bytes := bytes) (maxL := maxL) (ret := ret) (E := fun _ first o t L k n => k = rm.cells ∧ n = rm.slots ∧ (∃ v, o = .returned v ∧ Q' v t.heap L) ∧ CHr Z EL first.vm first.heap t.vm t.heap) hM hf hl
    (fun m meth c A a Y hp => have hU : Z.Warmed39 A.U.vm := wtrans (s := s.setVm vm0) hZ Y.warmed
      ⟨by show (Cond.and _ .tt).before a A.U = true; rw [Cond.before_and, mv hU wc]; rfl, mv hU wc, mv hU wz, hp.2.2.1, hp.2.2.2⟩)
    (fun m meth c A a g mk Y hp => ⟨hp.1, wtrans (s := s.setVm vm0) hZ Y.warmed, hp.2.1, (CHv.at Y hZ hEL H).1, fun x hx => (CHv.at Y hZ hEL H).safe (hSL x hx).1 (hSL x hx).2⟩) (fun _ _ _ _ _ _ _ _ _ => trivial)
    (fun _ _ _ _ ⟨v, L, h1, h2, h3, h4⟩ => ⟨L, _, _, h4, rfl, rfl, ⟨v, h1, h2⟩, h3⟩)
    (fun m meth c A a g mk v t L k n Y hp _ _ ⟨e1, e2, ⟨v', e3, e4⟩, e5⟩ => by
      cases e3; subst e1 e2
      refine ⟨L, e4, rfl, rfl, rfl, (CHv.at Y hZ hEL H).trans ?_⟩
      rw [← hp.2.1]; exact e5)
theorem Go.callIW (X : Stand p l e R (s.setVm vm0) m args below meth c T locs cells slots) (hx : p.tables.exec = Jvm.exec) (hZ : Z.Warmed39 vm0) (hown : vm0.findClass own = some m.cls) (hy1 : y.name = "<init>") (w1 : (Cond.methodLink own index y).before a0 Z = true) (w2 : (Cond.instanceMethod y).before a0 Z = true) (w3 : (Cond.initialized y.cls).before a0 Z = true) (w4 : (Cond.code y bytes maxL none).before a0 Z = true) (hy : y.cls ≠ "java/lang/invoke/MethodHandle" ∧ y.cls ≠ "java/lang/invoke/VarHandle") {a : Addr}
    (hM : MetFree l y (head1 [Cond.code y bytes maxL none] rm) (fun a U => a = as' ∧ Z.Warmed39 U.vm ∧ U.heap = h ∧ CHv Z EL U.vm h ∧ ∀ x ∈ SL, Safe Z EL U.vm h x) (fun _ _ _ _ _ => True) (fun _ U o U' => ∃ v L, o = .returned v ∧ Q' v U'.heap L ∧ CHr Z EL U.vm U.heap U'.vm U'.heap ∧ ReturnedEndW U o U' L rm.cells rm.slots)) (eT : T.heap = h)
    (hEL : EW Z a0 EL) (H : CHv Z EL vm0 h) (hSL : ∀ x ∈ SL, x < h.size ∧ Safe Z EL vm0 h x) (hS : s.Since vm0 k0) (hk : k0 ≤ h.size) (W : Nat) (hf : rm.frames + 1 ≤ R.frames) (hl : W + (maxL + 11) + rm.locals ≤ R.locals)
    (hsize : Ls.size = c.maxLocals) (hlen : ∀ sig, parseMethodDescriptor y.desc = some sig → argsL.length = sig.parameters.length) (hstk : stk = argsL.reverse ++ .ref a :: rest) (has : (.ref a :: argsL).toArray = as') (hW : (rest.map fun v => v.category).sum ≤ W) (hd : decode c.code pc = .ok (.invokespecial index, 3)) (hc2 : cells + rm.cells = c2) (hs2 : slots + rm.slots = s2) (hc : c2 ≤ R.cells) (hs : s2 ≤ R.slots)
    (k : ∀ v T' L L', Stand p l e R (s.setVm T'.vm) m args below meth c T' L' c2 s2 → L' = locs ++ L → Q' v T'.heap L → s.Since T'.vm T'.heap.size → Z.Warmed39 T'.vm → T'.vm.findClass own = some m.cls → CHr Z EL vm0 h T'.vm T'.heap → Go p e below F Q T' (mkF m (pc + 3) Ls (v.toList ++ rest))) : Go p e below F Q T (mkF m pc Ls stk) := by
  subst hc2 hs2
  have hZ' : Z.Warmed39 (s.setVm vm0).vm := hZ
  obtain ⟨v, vm1, B, -, X', hS', hgr, ⟨L, hQ, h1, h2, h3, h4⟩, st⟩ := X.specialBackS hx hy1 hown (mvT (s := s.setVm vm0) hZ' w1) (mvT (s := s.setVm vm0) hZ' w2) (mvT (s := s.setVm vm0) hZ' w4) hy (own_backSH (W := W) hM hZ w4 w3 hf hl hEL H hSL) (g := mkF m pc Ls stk) rfl hsize (Steps.refl _) (a := a) (argsL := argsL) (rest := rest) hlen hstk (by show 2 * 0 + _ ≤ _; omega) hd (fun _ _ => ⟨has, eT, hc, hs⟩)
  have hW : Z.Warmed39 B.U.vm := State.Warmed39.trans (t := s.setVm vm0) hZ hS'.1
  exact Go.of (fun t kz => st.trans kz) (k v B.U L B.locs (by rw [← h2, ← h3]; exact X') h1 hQ (foldS hS (by rw [eT]; exact hk) hS' hgr) hW (by rw [hS'.1.alike.findClass]; exact hown) h4)
end OwnWide
theorem own_eqI {args : Array Value} {first s : State} {o : Option Outcome} {idx : List Nat} {t : Term} {z : Int32} (h : (Cond.eq t (.int z)).value args first o s idx = some true) : t.eval args first o idx s = some (.int z) := by
  obtain ⟨x, y, h1, h2, -, h4⟩ := cmp_v (Or.inl h)
  have e : y = .int z := (Option.some.inj h2).symm
  subst e
  obtain ⟨w, rfl⟩ := h4
  have := gotT (Cond.eq_ints h1 h2) h
  rw [h1, this]
theorem own_eqR {args : Array Value} {first s : State} {o : Option Outcome} {idx : List Nat} {t u : Term} {a : Addr} (h : (Cond.eq t u).value args first o s idx = some true) (hu : u.eval args first o idx s = some (.ref a)) : t.eval args first o idx s = some (.ref a) := by
  obtain ⟨x, y, h1, h2, -, h4⟩ := cmp_v (Or.inl h)
  have e : y = .ref a := Option.some.inj (h2.symm.trans hu)
  subst e
  have hk : x.isRef = true := h4.2
  have := gotT (eq_R h1 h2 hk rfl) h
  rw [h1, this]
theorem own_len {args : Array Value} {first s : State} {o : Option Outcome} {idx : List Nat} {t : Term} {n : Int32} {a : Addr} {cell : Cell} (h : (Term.length t).eval args first o idx s = some (.int n)) (ht : t.eval args first o idx s = some (.ref a)) (hc : s.heap[a]? = some cell) : s.arrayAt? a = some cell ∧ cell.slots.size < 2 ^ 31 ∧ cell.slots.size.toInt32 = n := by
  obtain ⟨a', cell', ha', hat, hv⟩ := Term.length_spec h
  cases ht.symm.trans ha'
  cases hc.symm.trans (State.arrayAt?_spec hat).1
  refine ⟨hat, ?_, (Value.int.inj hv).symm⟩
  by_cases hb : cell.slots.size < 2 ^ 31
  · exact hb
  · simp [Term.eval, ht, hat, hb] at h
theorem own_narb (y : Int8) : nar .byte y.toInt32 = y.toInt32 := by
  show y.toInt32.toInt8.toInt32 = y.toInt32
  rw [Int8.toInt8_toInt32]
theorem own_fitb (y : Int8) : fits .byte (.int y.toInt32) = true := by
  have h := fits_nar_byte y.toInt32
  rwa [Int8.toInt8_toInt32] at h
theorem own_retI {p : Program} {l : Launch} {e : Env} {R : Room} {s : State} {m : MethodId} {args : Array Value} {below : List Frame} {meth : Method} {c : Code} {T : State} {locs : List Loc} {cells slots : Nat} (X : Stand p l e R s m args below meth c T locs cells slots) (hx : p.tables.exec = Jvm.exec) {pc : Nat} {Ls : Array Slot} {z : Int32} {rest : List Value} (hret : meth.sig.returnType = some .int) (hd : decode c.code pc = .ok (.ireturn, 1)) {fs : List Frame}
    (hl : ∀ (f : JFrame) (acts : List Action), f.method = m → f.locked = none → f.entered = [] → (doReturn e (T.setTop f) acts (some (.int z))).1 = T.setFrames fs) : Steps p.tables e below (T.setTop (mkF m pc Ls (.int z :: rest))) (T.setFrames fs) :=
  retOut X hx hret rfl (Or.inl ⟨rfl, Or.inl rfl, z, rfl⟩) hd hl

def own_ch (u : UInt16) : Int32 := u.toUInt32.toInt32
def own_lo (u : UInt16) : Int8 := (own_ch u).toInt8
def own_lo0 (u : UInt16) : Int8 := ((own_ch u) >>> ((0 : Int32) &&& 31)).toInt8
def own_hi8 (u : UInt16) : Int8 := ((own_ch u) >>> ((8 : Int32) &&& 31)).toInt8
theorem own_i2c (u : UInt16) : (own_ch u).toUInt32.toUInt16.toUInt32.toInt32 = own_ch u := by simp [own_ch]
theorem own_narc (u : UInt16) : nar .char (own_ch u) = own_ch u := own_i2c u
theorem own_fitc (u : UInt16) : fits .char (.int (own_ch u)) = true := by
  have h := fits_nar_char (own_ch u)
  rwa [own_narc] at h
theorem own_nat {x : Int32} (h : 0 ≤ x.toInt) : x.toInt = (x.toBitVec.toNat : Int) := by
  have h3 : x.toInt = x.toBitVec.toInt := rfl
  have h4 := BitVec.toInt_eq_toNat_cond x.toBitVec
  have h5 := x.toBitVec.isLt
  split at h4 <;> omega
theorem own_chint (u : UInt16) : (own_ch u).toInt = (u.toNat : Int) := by
  have h := u.toNat_lt
  have e : (own_ch u).toBitVec.toNat = u.toNat := by simp [own_ch]
  have h4 := BitVec.toInt_eq_toNat_cond (own_ch u).toBitVec
  have h3 : (own_ch u).toInt = (own_ch u).toBitVec.toInt := rfl
  rw [h3, h4, e]
  split <;> omega
theorem own_low (x : Int32) (n : Nat) (hn : x.toInt = n) : (x.toInt8.toInt32 &&& (255 : Int32)).toInt = (n % 256 : Nat) := by
  rw [Jvm.Kit.i32_mask _ 255 (k := 8) (by decide) (by decide), Int8.toInt_toInt32, Int32.toInt_toInt8, hn, Int.bmod_def]
  split <;> omega
theorem own_getW (u : UInt16) : ((((own_lo0 u).toInt32 &&& (255 : Int32)) <<< ((0 : Int32) &&& 31)) ||| (((own_hi8 u).toInt32 &&& (255 : Int32)) <<< ((8 : Int32) &&& 31))) = own_ch u := by
  have hu := u.toNat_lt
  have c := own_chint u
  have s0 : ((own_ch u) >>> ((0 : Int32) &&& 31)).toInt = (u.toNat : Int) := by
    rw [Jvm.Kit.i32_shr _ _ (k := 0) (by decide), c]; omega
  have s8 : ((own_ch u) >>> ((8 : Int32) &&& 31)).toInt = ((u.toNat / 256 : Nat) : Int) := by
    rw [Jvm.Kit.i32_shr _ _ (k := 8) (by decide), c]; omega
  have a0 := own_low _ _ s0
  have b0 := own_low _ _ s8
  have a1 : ((((own_lo0 u).toInt32 &&& (255 : Int32)) <<< ((0 : Int32) &&& 31))).toInt = ((u.toNat % 256 : Nat) : Int) := by
    show ((((own_ch u) >>> ((0 : Int32) &&& 31)).toInt8.toInt32 &&& (255 : Int32)) <<< ((0 : Int32) &&& 31)).toInt = _
    rw [Jvm.Kit.i32_shl _ _ (k := 0) (by decide) (by omega) (by omega), a0]; omega
  have b1 : ((((own_hi8 u).toInt32 &&& (255 : Int32)) <<< ((8 : Int32) &&& 31))).toInt = ((u.toNat / 256 * 256 : Nat) : Int) := by
    show ((((own_ch u) >>> ((8 : Int32) &&& 31)).toInt8.toInt32 &&& (255 : Int32)) <<< ((8 : Int32) &&& 31)).toInt = _
    rw [Jvm.Kit.i32_shl _ _ (k := 8) (by decide) (by omega) (by omega), b0]; omega
  generalize (((own_lo0 u).toInt32 &&& (255 : Int32)) <<< ((0 : Int32) &&& 31)) = A at *
  generalize (((own_hi8 u).toInt32 &&& (255 : Int32)) <<< ((8 : Int32) &&& 31)) = B at *
  have a2 := own_nat (x := A) (by omega)
  have b2 := own_nat (x := B) (by omega)
  have e : (A ||| B).toBitVec.toNat = u.toNat := by
    show (A.toBitVec ||| B.toBitVec).toNat = _
    rw [BitVec.toNat_or]
    have a3 : A.toBitVec.toNat = u.toNat % 256 := by omega
    have b3 : B.toBitVec.toNat = (u.toNat / 256) <<< 8 := by rw [Nat.shiftLeft_eq]; omega
    rw [a3, b3, Nat.or_comm, ← Nat.shiftLeft_add_eq_or_of_lt (by omega : u.toNat % 256 < 2 ^ 8), Nat.shiftLeft_eq]
    omega
  apply Int32.toBitVec_inj.mp
  apply BitVec.eq_of_toNat_eq
  rw [e]
  simp [own_ch]
theorem own_get (u : UInt16) : nar .char ((((((own_lo0 u).toInt32 &&& (255 : Int32)) <<< ((0 : Int32) &&& 31)) ||| (((own_hi8 u).toInt32 &&& (255 : Int32)) <<< ((8 : Int32) &&& 31)))).toUInt32.toUInt16.toUInt32.toInt32) = own_ch u := by
  rw [own_getW, own_i2c, own_narc]
theorem own_latW (u : UInt16) (h : ¬ (255 : Int32) < own_ch u) : ((own_lo u).toInt32 &&& (255 : Int32)) = own_ch u := by
  have c := own_chint u
  have h' : ¬ (255 : Int32).toInt < (own_ch u).toInt := fun q => h (Int32.lt_iff_toInt_lt.mpr q)
  have k : (255 : Int32).toInt = 255 := by decide
  have a := own_low _ _ c
  apply Int32.toInt_inj.mp
  show ((own_ch u).toInt8.toInt32 &&& (255 : Int32)).toInt = _
  rw [a, c]
  omega
theorem own_lat (u : UInt16) (h : ¬ (255 : Int32) < own_ch u) : nar .char (((own_lo u).toInt32 &&& (255 : Int32)).toUInt32.toUInt16.toUInt32.toInt32) = own_ch u := by
  rw [own_latW u h, own_i2c, own_narc]

theorem w0 {Z : State} {a0 : Array Value} (hw : ∀ d ∈ tables_1, d.before a0 Z = true) : (Jvm.Cond.constant "com/example/fulla/fulla/model/LatticeIsNamePinLaw" (13 : Nat) (2147483647 : Int32)).before a0 Z = true := hw _ (List.mem_of_getElem? (i := 0) rfl)
theorem w1 {Z : State} {a0 : Array Value} (hw : ∀ d ∈ tables_1, d.before a0 Z = true) : (Jvm.Cond.constant "com/example/fulla/fulla/model/LatticeIsNamePinLaw" (14 : Nat) (65535 : Int32)).before a0 Z = true := hw _ (List.mem_of_getElem? (i := 1) rfl)
theorem w2 {Z : State} {a0 : Array Value} (hw : ∀ d ∈ tables_1, d.before a0 Z = true) : (Jvm.Cond.classLink "com/example/fulla/fulla/model/LatticeIsNamePinLaw" (15 : Nat) "java/lang/String").before a0 Z = true := hw _ (List.mem_of_getElem? (i := 2) rfl)
theorem w3 {Z : State} {a0 : Array Value} (hw : ∀ d ∈ tables_1, d.before a0 Z = true) : (Jvm.Cond.instantiable "java/lang/String" (4 : Nat)).before a0 Z = true := hw _ (List.mem_of_getElem? (i := 3) rfl)
theorem w4 {Z : State} {a0 : Array Value} (hw : ∀ d ∈ tables_1, d.before a0 Z = true) : (Jvm.Cond.initialized "java/lang/String").before a0 Z = true := hw _ (List.mem_of_getElem? (i := 4) rfl)
theorem w5 {Z : State} {a0 : Array Value} (hw : ∀ d ∈ tables_1, d.before a0 Z = true) : (Jvm.Cond.methodLink "com/example/fulla/fulla/model/LatticeIsNamePinLaw" (17 : Nat) ({ cls := "com/example/fulla/fulla/model/LatticeIsNamePinLaw", name := "make", desc := "(ICCCCC)[C" } : Jvm.MethodName)).before a0 Z = true := hw _ (List.mem_of_getElem? (i := 5) rfl)
theorem w6 {Z : State} {a0 : Array Value} (hw : ∀ d ∈ tables_1, d.before a0 Z = true) : (Jvm.Cond.static ({ cls := "com/example/fulla/fulla/model/LatticeIsNamePinLaw", name := "make", desc := "(ICCCCC)[C" } : Jvm.MethodName)).before a0 Z = true := hw _ (List.mem_of_getElem? (i := 6) rfl)
theorem w7 {Z : State} {a0 : Array Value} (hw : ∀ d ∈ tables_1, d.before a0 Z = true) : (Jvm.Cond.initialized "com/example/fulla/fulla/model/LatticeIsNamePinLaw").before a0 Z = true := hw _ (List.mem_of_getElem? (i := 7) rfl)
theorem w8 {Z : State} {a0 : Array Value} (hw : ∀ d ∈ tables_1, d.before a0 Z = true) : (Jvm.Cond.code ({ cls := "com/example/fulla/fulla/model/LatticeIsNamePinLaw", name := "make", desc := "(ICCCCC)[C" } : Jvm.MethodName) method_4_code (6 : Nat) (Option.some (Jvm.ClassFile.FieldType.array Jvm.ClassFile.FieldType.char))).before a0 Z = true := hw _ (List.mem_of_getElem? (i := 8) rfl)
theorem w9 {Z : State} {a0 : Array Value} (hw : ∀ d ∈ tables_1, d.before a0 Z = true) : (Jvm.Cond.arrayClass Jvm.ClassFile.FieldType.char).before a0 Z = true := hw _ (List.mem_of_getElem? (i := 9) rfl)
theorem w10 {Z : State} {a0 : Array Value} (hw : ∀ d ∈ tables_1, d.before a0 Z = true) : (Jvm.Cond.methodLink "com/example/fulla/fulla/model/LatticeIsNamePinLaw" (21 : Nat) ({ cls := "java/lang/String", name := "<init>", desc := "([C)V" } : Jvm.MethodName)).before a0 Z = true := hw _ (List.mem_of_getElem? (i := 10) rfl)
theorem w11 {Z : State} {a0 : Array Value} (hw : ∀ d ∈ tables_1, d.before a0 Z = true) : (Jvm.Cond.instanceMethod ({ cls := "java/lang/String", name := "<init>", desc := "([C)V" } : Jvm.MethodName)).before a0 Z = true := hw _ (List.mem_of_getElem? (i := 11) rfl)
theorem w12 {Z : State} {a0 : Array Value} (hw : ∀ d ∈ tables_1, d.before a0 Z = true) : (Jvm.Cond.code ({ cls := "java/lang/String", name := "<init>", desc := "([C)V" } : Jvm.MethodName) jdk_42_method_3_code (2 : Nat) (Option.none : Option Jvm.ClassFile.FieldType)).before a0 Z = true := hw _ (List.mem_of_getElem? (i := 12) rfl)
theorem w13 {Z : State} {a0 : Array Value} (hw : ∀ d ∈ tables_1, d.before a0 Z = true) : (Jvm.Cond.methodLink "java/lang/String" (27 : Nat) ({ cls := "java/lang/String", name := "<init>", desc := "([CIILjava/lang/Void;)V" } : Jvm.MethodName)).before a0 Z = true := hw _ (List.mem_of_getElem? (i := 13) rfl)
theorem w14 {Z : State} {a0 : Array Value} (hw : ∀ d ∈ tables_1, d.before a0 Z = true) : (Jvm.Cond.instanceMethod ({ cls := "java/lang/String", name := "<init>", desc := "([CIILjava/lang/Void;)V" } : Jvm.MethodName)).before a0 Z = true := hw _ (List.mem_of_getElem? (i := 14) rfl)
theorem w16 {Z : State} {a0 : Array Value} (hw : ∀ d ∈ tables_1, d.before a0 Z = true) : (Jvm.Cond.code ({ cls := "java/lang/String", name := "<init>", desc := "([CIILjava/lang/Void;)V" } : Jvm.MethodName) jdk_42_method_149_code (6 : Nat) (Option.none : Option Jvm.ClassFile.FieldType)).before a0 Z = true := hw _ (List.mem_of_getElem? (i := 16) rfl)
theorem w17 {Z : State} {a0 : Array Value} (hw : ∀ d ∈ tables_1, d.before a0 Z = true) : (Jvm.Cond.methodLink "java/lang/String" (1 : Nat) ({ cls := "java/lang/Object", name := "<init>", desc := "()V" } : Jvm.MethodName)).before a0 Z = true := hw _ (List.mem_of_getElem? (i := 17) rfl)
theorem w18 {Z : State} {a0 : Array Value} (hw : ∀ d ∈ tables_1, d.before a0 Z = true) : (Jvm.Cond.instanceMethod ({ cls := "java/lang/Object", name := "<init>", desc := "()V" } : Jvm.MethodName)).before a0 Z = true := hw _ (List.mem_of_getElem? (i := 18) rfl)
theorem w19 {Z : State} {a0 : Array Value} (hw : ∀ d ∈ tables_1, d.before a0 Z = true) : (Jvm.Cond.code ({ cls := "java/lang/Object", name := "<init>", desc := "()V" } : Jvm.MethodName) object_method_1_code (1 : Nat) (Option.none : Option Jvm.ClassFile.FieldType)).before a0 Z = true := hw _ (List.mem_of_getElem? (i := 19) rfl)
theorem w20 {Z : State} {a0 : Array Value} (hw : ∀ d ∈ tables_1, d.before a0 Z = true) : (Jvm.Cond.stringLink "java/lang/String" (7 : Nat) "").before a0 Z = true := hw _ (List.mem_of_getElem? (i := 20) rfl)
theorem w21 {Z : State} {a0 : Array Value} (hw : ∀ d ∈ tables_1, d.before a0 Z = true) : (Jvm.Cond.arrayClass Jvm.ClassFile.FieldType.byte).before a0 Z = true := hw _ (List.mem_of_getElem? (i := 21) rfl)
theorem w22 {Z : State} {a0 : Array Value} (hw : ∀ d ∈ tables_1, d.before a0 Z = true) : (Jvm.Cond.laysFinal "java/lang/String" "java/lang/String" "value" "[B").before a0 Z = true := hw _ (List.mem_of_getElem? (i := 22) rfl)
theorem w23 {Z : State} {a0 : Array Value} (hw : ∀ d ∈ tables_1, d.before a0 Z = true) : (Jvm.Cond.laysFinal "java/lang/String" "java/lang/String" "coder" "B").before a0 Z = true := hw _ (List.mem_of_getElem? (i := 23) rfl)
theorem w24 {Z : State} {a0 : Array Value} (hw : ∀ d ∈ tables_1, d.before a0 Z = true) : (Jvm.Cond.soleField "java/lang/String" "value").before a0 Z = true := hw _ (List.mem_of_getElem? (i := 24) rfl)
theorem w25 {Z : State} {a0 : Array Value} (hw : ∀ d ∈ tables_1, d.before a0 Z = true) : (Jvm.Cond.soleField "java/lang/String" "coder").before a0 Z = true := hw _ (List.mem_of_getElem? (i := 25) rfl)
theorem w26 {Z : State} {a0 : Array Value} (hw : ∀ d ∈ tables_1, d.before a0 Z = true) : (Jvm.Cond.fieldLink "java/lang/String" (9 : Nat) "java/lang/String" "value" "[B").before a0 Z = true := hw _ (List.mem_of_getElem? (i := 26) rfl)
theorem w27 {Z : State} {a0 : Array Value} (hw : ∀ d ∈ tables_1, d.before a0 Z = true) : (Jvm.Cond.fieldLink "java/lang/String" (15 : Nat) "java/lang/String" "coder" "B").before a0 Z = true := hw _ (List.mem_of_getElem? (i := 27) rfl)
theorem w28 {Z : State} {a0 : Array Value} (hw : ∀ d ∈ tables_1, d.before a0 Z = true) : (Jvm.Cond.methodLink "com/example/fulla/fulla/model/LatticeIsNamePinLaw" (27 : Nat) ({ cls := "com/example/fulla/fulla/model/Lattice", name := "isName", desc := "(Ljava/lang/String;)Z" } : Jvm.MethodName)).before a0 Z = true := hw _ (List.mem_of_getElem? (i := 28) rfl)
theorem w29 {Z : State} {a0 : Array Value} (hw : ∀ d ∈ tables_1, d.before a0 Z = true) : (Jvm.Cond.static ({ cls := "com/example/fulla/fulla/model/Lattice", name := "isName", desc := "(Ljava/lang/String;)Z" } : Jvm.MethodName)).before a0 Z = true := hw _ (List.mem_of_getElem? (i := 29) rfl)
theorem w30 {Z : State} {a0 : Array Value} (hw : ∀ d ∈ tables_1, d.before a0 Z = true) : (Jvm.Cond.initialized "com/example/fulla/fulla/model/Lattice").before a0 Z = true := hw _ (List.mem_of_getElem? (i := 30) rfl)
theorem w31 {Z : State} {a0 : Array Value} (hw : ∀ d ∈ tables_1, d.before a0 Z = true) : (Jvm.Cond.code ({ cls := "com/example/fulla/fulla/model/Lattice", name := "isName", desc := "(Ljava/lang/String;)Z" } : Jvm.MethodName) prog_60_method_3_code (3 : Nat) (Option.some Jvm.ClassFile.FieldType.boolean)).before a0 Z = true := hw _ (List.mem_of_getElem? (i := 31) rfl)
theorem w32 {Z : State} {a0 : Array Value} (hw : ∀ d ∈ tables_1, d.before a0 Z = true) : (Jvm.Cond.methodLink "com/example/fulla/fulla/model/Lattice" (54 : Nat) ({ cls := "java/lang/String", name := "isEmpty", desc := "()Z" } : Jvm.MethodName)).before a0 Z = true := hw _ (List.mem_of_getElem? (i := 32) rfl)
theorem w33 {Z : State} {a0 : Array Value} (hw : ∀ d ∈ tables_1, d.before a0 Z = true) : (Jvm.Cond.declares ({ cls := "java/lang/String", name := "isEmpty", desc := "()Z" } : Jvm.MethodName)).before a0 Z = true := hw _ (List.mem_of_getElem? (i := 33) rfl)
theorem w34 {Z : State} {a0 : Array Value} (hw : ∀ d ∈ tables_1, d.before a0 Z = true) : (Jvm.Cond.instanceMethod ({ cls := "java/lang/String", name := "isEmpty", desc := "()Z" } : Jvm.MethodName)).before a0 Z = true := hw _ (List.mem_of_getElem? (i := 34) rfl)
theorem w35 {Z : State} {a0 : Array Value} (hw : ∀ d ∈ tables_1, d.before a0 Z = true) : (Jvm.Cond.selects "java/lang/String" ({ cls := "java/lang/String", name := "isEmpty", desc := "()Z" } : Jvm.MethodName) ({ cls := "java/lang/String", name := "isEmpty", desc := "()Z" } : Jvm.MethodName)).before a0 Z = true := hw _ (List.mem_of_getElem? (i := 35) rfl)
theorem w36 {Z : State} {a0 : Array Value} (hw : ∀ d ∈ tables_1, d.before a0 Z = true) : (Jvm.Cond.code ({ cls := "java/lang/String", name := "isEmpty", desc := "()Z" } : Jvm.MethodName) jdk_42_method_55_code (1 : Nat) (Option.some Jvm.ClassFile.FieldType.boolean)).before a0 Z = true := hw _ (List.mem_of_getElem? (i := 36) rfl)
theorem w37 {Z : State} {a0 : Array Value} (hw : ∀ d ∈ tables_1, d.before a0 Z = true) : (Jvm.Cond.fieldLink "java/lang/String" (38 : Nat) "java/lang/String" "COMPACT_STRINGS" "Z").before a0 Z = true := hw _ (List.mem_of_getElem? (i := 37) rfl)
theorem w38 {Z : State} {a0 : Array Value} (hw : ∀ d ∈ tables_1, d.before a0 Z = true) : (Jvm.Cond.methodLink "java/lang/String" (177 : Nat) ({ cls := "java/lang/StringUTF16", name := "compress", desc := "([CII)[B" } : Jvm.MethodName)).before a0 Z = true := hw _ (List.mem_of_getElem? (i := 38) rfl)
theorem w39 {Z : State} {a0 : Array Value} (hw : ∀ d ∈ tables_1, d.before a0 Z = true) : (Jvm.Cond.static ({ cls := "java/lang/StringUTF16", name := "compress", desc := "([CII)[B" } : Jvm.MethodName)).before a0 Z = true := hw _ (List.mem_of_getElem? (i := 39) rfl)
theorem w40 {Z : State} {a0 : Array Value} (hw : ∀ d ∈ tables_1, d.before a0 Z = true) : (Jvm.Cond.initialized "java/lang/StringUTF16").before a0 Z = true := hw _ (List.mem_of_getElem? (i := 40) rfl)
theorem w41 {Z : State} {a0 : Array Value} (hw : ∀ d ∈ tables_1, d.before a0 Z = true) : (Jvm.Cond.code ({ cls := "java/lang/StringUTF16", name := "compress", desc := "([CII)[B" } : Jvm.MethodName) jdk_52_method_16_code (6 : Nat) (Option.some (Jvm.ClassFile.FieldType.array Jvm.ClassFile.FieldType.byte))).before a0 Z = true := hw _ (List.mem_of_getElem? (i := 41) rfl)
theorem w42 {Z : State} {a0 : Array Value} (hw : ∀ d ∈ tables_1, d.before a0 Z = true) : (Jvm.Cond.methodLink "java/lang/StringUTF16" (115 : Nat) ({ cls := "java/lang/StringUTF16", name := "compress", desc := "([CI[BII)I" } : Jvm.MethodName)).before a0 Z = true := hw _ (List.mem_of_getElem? (i := 42) rfl)
theorem w43 {Z : State} {a0 : Array Value} (hw : ∀ d ∈ tables_1, d.before a0 Z = true) : (Jvm.Cond.static ({ cls := "java/lang/StringUTF16", name := "compress", desc := "([CI[BII)I" } : Jvm.MethodName)).before a0 Z = true := hw _ (List.mem_of_getElem? (i := 43) rfl)
theorem w44 {Z : State} {a0 : Array Value} (hw : ∀ d ∈ tables_1, d.before a0 Z = true) : (Jvm.Cond.code ({ cls := "java/lang/StringUTF16", name := "compress", desc := "([CI[BII)I" } : Jvm.MethodName) jdk_52_method_21_code (7 : Nat) (Option.some Jvm.ClassFile.FieldType.int)).before a0 Z = true := hw _ (List.mem_of_getElem? (i := 44) rfl)
theorem w45 {Z : State} {a0 : Array Value} (hw : ∀ d ∈ tables_1, d.before a0 Z = true) : (Jvm.Cond.methodLink "java/lang/String" (47 : Nat) ({ cls := "java/lang/StringUTF16", name := "coderFromArrayLen", desc := "([BI)B" } : Jvm.MethodName)).before a0 Z = true := hw _ (List.mem_of_getElem? (i := 45) rfl)
theorem w46 {Z : State} {a0 : Array Value} (hw : ∀ d ∈ tables_1, d.before a0 Z = true) : (Jvm.Cond.static ({ cls := "java/lang/StringUTF16", name := "coderFromArrayLen", desc := "([BI)B" } : Jvm.MethodName)).before a0 Z = true := hw _ (List.mem_of_getElem? (i := 46) rfl)
theorem w47 {Z : State} {a0 : Array Value} (hw : ∀ d ∈ tables_1, d.before a0 Z = true) : (Jvm.Cond.code ({ cls := "java/lang/StringUTF16", name := "coderFromArrayLen", desc := "([BI)B" } : Jvm.MethodName) jdk_52_method_15_code (2 : Nat) (Option.some Jvm.ClassFile.FieldType.byte)).before a0 Z = true := hw _ (List.mem_of_getElem? (i := 47) rfl)
theorem w48 {Z : State} {a0 : Array Value} (hw : ∀ d ∈ tables_1, d.before a0 Z = true) : (Jvm.Cond.methodLink "com/example/fulla/fulla/model/LatticeIsNamePinLaw" (7 : Nat) ({ cls := "com/example/fulla/fulla/model/LatticeIsNamePinLaw", name := "letter", desc := "(C)Z" } : Jvm.MethodName)).before a0 Z = true := hw _ (List.mem_of_getElem? (i := 48) rfl)
theorem w49 {Z : State} {a0 : Array Value} (hw : ∀ d ∈ tables_1, d.before a0 Z = true) : (Jvm.Cond.static ({ cls := "com/example/fulla/fulla/model/LatticeIsNamePinLaw", name := "letter", desc := "(C)Z" } : Jvm.MethodName)).before a0 Z = true := hw _ (List.mem_of_getElem? (i := 49) rfl)
theorem w50 {Z : State} {a0 : Array Value} (hw : ∀ d ∈ tables_1, d.before a0 Z = true) : (Jvm.Cond.code ({ cls := "com/example/fulla/fulla/model/LatticeIsNamePinLaw", name := "letter", desc := "(C)Z" } : Jvm.MethodName) method_2_code (1 : Nat) (Option.some Jvm.ClassFile.FieldType.boolean)).before a0 Z = true := hw _ (List.mem_of_getElem? (i := 50) rfl)
theorem w51 {Z : State} {a0 : Array Value} (hw : ∀ d ∈ tables_1, d.before a0 Z = true) : (Jvm.Cond.methodLink "com/example/fulla/fulla/model/Lattice" (60 : Nat) ({ cls := "java/lang/String", name := "charAt", desc := "(I)C" } : Jvm.MethodName)).before a0 Z = true := hw _ (List.mem_of_getElem? (i := 51) rfl)
theorem w52 {Z : State} {a0 : Array Value} (hw : ∀ d ∈ tables_1, d.before a0 Z = true) : (Jvm.Cond.declares ({ cls := "java/lang/String", name := "charAt", desc := "(I)C" } : Jvm.MethodName)).before a0 Z = true := hw _ (List.mem_of_getElem? (i := 52) rfl)
theorem w53 {Z : State} {a0 : Array Value} (hw : ∀ d ∈ tables_1, d.before a0 Z = true) : (Jvm.Cond.instanceMethod ({ cls := "java/lang/String", name := "charAt", desc := "(I)C" } : Jvm.MethodName)).before a0 Z = true := hw _ (List.mem_of_getElem? (i := 53) rfl)
theorem w54 {Z : State} {a0 : Array Value} (hw : ∀ d ∈ tables_1, d.before a0 Z = true) : (Jvm.Cond.selects "java/lang/String" ({ cls := "java/lang/String", name := "charAt", desc := "(I)C" } : Jvm.MethodName) ({ cls := "java/lang/String", name := "charAt", desc := "(I)C" } : Jvm.MethodName)).before a0 Z = true := hw _ (List.mem_of_getElem? (i := 54) rfl)
theorem w55 {Z : State} {a0 : Array Value} (hw : ∀ d ∈ tables_1, d.before a0 Z = true) : (Jvm.Cond.code ({ cls := "java/lang/String", name := "charAt", desc := "(I)C" } : Jvm.MethodName) jdk_42_method_56_code (2 : Nat) (Option.some Jvm.ClassFile.FieldType.char)).before a0 Z = true := hw _ (List.mem_of_getElem? (i := 55) rfl)
theorem w56 {Z : State} {a0 : Array Value} (hw : ∀ d ∈ tables_1, d.before a0 Z = true) : (Jvm.Cond.methodLink "java/lang/String" (492 : Nat) ({ cls := "java/lang/String", name := "isLatin1", desc := "()Z" } : Jvm.MethodName)).before a0 Z = true := hw _ (List.mem_of_getElem? (i := 56) rfl)
theorem w57 {Z : State} {a0 : Array Value} (hw : ∀ d ∈ tables_1, d.before a0 Z = true) : (Jvm.Cond.declares ({ cls := "java/lang/String", name := "isLatin1", desc := "()Z" } : Jvm.MethodName)).before a0 Z = true := hw _ (List.mem_of_getElem? (i := 57) rfl)
theorem w58 {Z : State} {a0 : Array Value} (hw : ∀ d ∈ tables_1, d.before a0 Z = true) : (Jvm.Cond.instanceMethod ({ cls := "java/lang/String", name := "isLatin1", desc := "()Z" } : Jvm.MethodName)).before a0 Z = true := hw _ (List.mem_of_getElem? (i := 58) rfl)
theorem w59 {Z : State} {a0 : Array Value} (hw : ∀ d ∈ tables_1, d.before a0 Z = true) : (Jvm.Cond.selects "java/lang/String" ({ cls := "java/lang/String", name := "isLatin1", desc := "()Z" } : Jvm.MethodName) ({ cls := "java/lang/String", name := "isLatin1", desc := "()Z" } : Jvm.MethodName)).before a0 Z = true := hw _ (List.mem_of_getElem? (i := 59) rfl)
theorem w60 {Z : State} {a0 : Array Value} (hw : ∀ d ∈ tables_1, d.before a0 Z = true) : (Jvm.Cond.code ({ cls := "java/lang/String", name := "isLatin1", desc := "()Z" } : Jvm.MethodName) jdk_42_method_154_code (1 : Nat) (Option.some Jvm.ClassFile.FieldType.boolean)).before a0 Z = true := hw _ (List.mem_of_getElem? (i := 60) rfl)
theorem w61 {Z : State} {a0 : Array Value} (hw : ∀ d ∈ tables_1, d.before a0 Z = true) : (Jvm.Cond.methodLink "java/lang/String" (495 : Nat) ({ cls := "java/lang/StringLatin1", name := "charAt", desc := "([BI)C" } : Jvm.MethodName)).before a0 Z = true := hw _ (List.mem_of_getElem? (i := 61) rfl)
theorem w62 {Z : State} {a0 : Array Value} (hw : ∀ d ∈ tables_1, d.before a0 Z = true) : (Jvm.Cond.static ({ cls := "java/lang/StringLatin1", name := "charAt", desc := "([BI)C" } : Jvm.MethodName)).before a0 Z = true := hw _ (List.mem_of_getElem? (i := 62) rfl)
theorem w63 {Z : State} {a0 : Array Value} (hw : ∀ d ∈ tables_1, d.before a0 Z = true) : (Jvm.Cond.initialized "java/lang/StringLatin1").before a0 Z = true := hw _ (List.mem_of_getElem? (i := 63) rfl)
theorem w64 {Z : State} {a0 : Array Value} (hw : ∀ d ∈ tables_1, d.before a0 Z = true) : (Jvm.Cond.code ({ cls := "java/lang/StringLatin1", name := "charAt", desc := "([BI)C" } : Jvm.MethodName) jdk_43_method_2_code (2 : Nat) (Option.some Jvm.ClassFile.FieldType.char)).before a0 Z = true := hw _ (List.mem_of_getElem? (i := 64) rfl)
theorem w65 {Z : State} {a0 : Array Value} (hw : ∀ d ∈ tables_1, d.before a0 Z = true) : (Jvm.Cond.methodLink "java/lang/StringLatin1" (9 : Nat) ({ cls := "java/lang/String", name := "checkIndex", desc := "(II)V" } : Jvm.MethodName)).before a0 Z = true := hw _ (List.mem_of_getElem? (i := 65) rfl)
theorem w66 {Z : State} {a0 : Array Value} (hw : ∀ d ∈ tables_1, d.before a0 Z = true) : (Jvm.Cond.static ({ cls := "java/lang/String", name := "checkIndex", desc := "(II)V" } : Jvm.MethodName)).before a0 Z = true := hw _ (List.mem_of_getElem? (i := 66) rfl)
theorem w67 {Z : State} {a0 : Array Value} (hw : ∀ d ∈ tables_1, d.before a0 Z = true) : (Jvm.Cond.code ({ cls := "java/lang/String", name := "checkIndex", desc := "(II)V" } : Jvm.MethodName) jdk_42_method_155_code (2 : Nat) (Option.none : Option Jvm.ClassFile.FieldType)).before a0 Z = true := hw _ (List.mem_of_getElem? (i := 67) rfl)
theorem w68 {Z : State} {a0 : Array Value} (hw : ∀ d ∈ tables_1, d.before a0 Z = true) : (Jvm.Cond.fieldLink "java/lang/String" (1053 : Nat) "jdk/internal/util/Preconditions" "SIOOBE_FORMATTER" "Ljava/util/function/BiFunction;").before a0 Z = true := hw _ (List.mem_of_getElem? (i := 68) rfl)
theorem w69 {Z : State} {a0 : Array Value} (hw : ∀ d ∈ tables_1, d.before a0 Z = true) : (Jvm.Cond.initialized "jdk/internal/util/Preconditions").before a0 Z = true := hw _ (List.mem_of_getElem? (i := 69) rfl)
theorem w70 {Z : State} {a0 : Array Value} (hw : ∀ d ∈ tables_1, d.before a0 Z = true) : (Jvm.Cond.methodLink "java/lang/String" (1059 : Nat) ({ cls := "jdk/internal/util/Preconditions", name := "checkIndex", desc := "(IILjava/util/function/BiFunction;)I" } : Jvm.MethodName)).before a0 Z = true := hw _ (List.mem_of_getElem? (i := 70) rfl)
theorem w71 {Z : State} {a0 : Array Value} (hw : ∀ d ∈ tables_1, d.before a0 Z = true) : (Jvm.Cond.static ({ cls := "jdk/internal/util/Preconditions", name := "checkIndex", desc := "(IILjava/util/function/BiFunction;)I" } : Jvm.MethodName)).before a0 Z = true := hw _ (List.mem_of_getElem? (i := 71) rfl)
theorem w72 {Z : State} {a0 : Array Value} (hw : ∀ d ∈ tables_1, d.before a0 Z = true) : (Jvm.Cond.code ({ cls := "jdk/internal/util/Preconditions", name := "checkIndex", desc := "(IILjava/util/function/BiFunction;)I" } : Jvm.MethodName) jdk_41_method_11_code (3 : Nat) (Option.some Jvm.ClassFile.FieldType.int)).before a0 Z = true := hw _ (List.mem_of_getElem? (i := 72) rfl)
theorem w73 {Z : State} {a0 : Array Value} (hw : ∀ d ∈ tables_1, d.before a0 Z = true) : (Jvm.Cond.methodLink "com/example/fulla/fulla/model/Lattice" (64 : Nat) ({ cls := "com/example/fulla/fulla/model/Lattice", name := "isAsciiLetter", desc := "(C)Z" } : Jvm.MethodName)).before a0 Z = true := hw _ (List.mem_of_getElem? (i := 73) rfl)
theorem w74 {Z : State} {a0 : Array Value} (hw : ∀ d ∈ tables_1, d.before a0 Z = true) : (Jvm.Cond.static ({ cls := "com/example/fulla/fulla/model/Lattice", name := "isAsciiLetter", desc := "(C)Z" } : Jvm.MethodName)).before a0 Z = true := hw _ (List.mem_of_getElem? (i := 74) rfl)
theorem w75 {Z : State} {a0 : Array Value} (hw : ∀ d ∈ tables_1, d.before a0 Z = true) : (Jvm.Cond.code ({ cls := "com/example/fulla/fulla/model/Lattice", name := "isAsciiLetter", desc := "(C)Z" } : Jvm.MethodName) prog_60_method_5_code (1 : Nat) (Option.some Jvm.ClassFile.FieldType.boolean)).before a0 Z = true := hw _ (List.mem_of_getElem? (i := 75) rfl)
theorem w76 {Z : State} {a0 : Array Value} (hw : ∀ d ∈ tables_1, d.before a0 Z = true) : (Jvm.Cond.methodLink "java/lang/StringUTF16" (119 : Nat) ({ cls := "java/lang/StringUTF16", name := "toBytes", desc := "([CII)[B" } : Jvm.MethodName)).before a0 Z = true := hw _ (List.mem_of_getElem? (i := 76) rfl)
theorem w77 {Z : State} {a0 : Array Value} (hw : ∀ d ∈ tables_1, d.before a0 Z = true) : (Jvm.Cond.static ({ cls := "java/lang/StringUTF16", name := "toBytes", desc := "([CII)[B" } : Jvm.MethodName)).before a0 Z = true := hw _ (List.mem_of_getElem? (i := 77) rfl)
theorem w78 {Z : State} {a0 : Array Value} (hw : ∀ d ∈ tables_1, d.before a0 Z = true) : (Jvm.Cond.code ({ cls := "java/lang/StringUTF16", name := "toBytes", desc := "([CII)[B" } : Jvm.MethodName) jdk_52_method_14_code (5 : Nat) (Option.some (Jvm.ClassFile.FieldType.array Jvm.ClassFile.FieldType.byte))).before a0 Z = true := hw _ (List.mem_of_getElem? (i := 78) rfl)
theorem w79 {Z : State} {a0 : Array Value} (hw : ∀ d ∈ tables_1, d.before a0 Z = true) : (Jvm.Cond.methodLink "java/lang/StringUTF16" (107 : Nat) ({ cls := "java/lang/StringUTF16", name := "newBytesFor", desc := "(I)[B" } : Jvm.MethodName)).before a0 Z = true := hw _ (List.mem_of_getElem? (i := 79) rfl)
theorem w80 {Z : State} {a0 : Array Value} (hw : ∀ d ∈ tables_1, d.before a0 Z = true) : (Jvm.Cond.static ({ cls := "java/lang/StringUTF16", name := "newBytesFor", desc := "(I)[B" } : Jvm.MethodName)).before a0 Z = true := hw _ (List.mem_of_getElem? (i := 80) rfl)
theorem w81 {Z : State} {a0 : Array Value} (hw : ∀ d ∈ tables_1, d.before a0 Z = true) : (Jvm.Cond.code ({ cls := "java/lang/StringUTF16", name := "newBytesFor", desc := "(I)[B" } : Jvm.MethodName) jdk_52_method_2_code (1 : Nat) (Option.some (Jvm.ClassFile.FieldType.array Jvm.ClassFile.FieldType.byte))).before a0 Z = true := hw _ (List.mem_of_getElem? (i := 81) rfl)
theorem w82 {Z : State} {a0 : Array Value} (hw : ∀ d ∈ tables_1, d.before a0 Z = true) : (Jvm.Cond.methodLink "java/lang/StringUTF16" (11 : Nat) ({ cls := "java/lang/StringUTF16", name := "newBytesLength", desc := "(I)I" } : Jvm.MethodName)).before a0 Z = true := hw _ (List.mem_of_getElem? (i := 82) rfl)
theorem w83 {Z : State} {a0 : Array Value} (hw : ∀ d ∈ tables_1, d.before a0 Z = true) : (Jvm.Cond.static ({ cls := "java/lang/StringUTF16", name := "newBytesLength", desc := "(I)I" } : Jvm.MethodName)).before a0 Z = true := hw _ (List.mem_of_getElem? (i := 83) rfl)
theorem w84 {Z : State} {a0 : Array Value} (hw : ∀ d ∈ tables_1, d.before a0 Z = true) : (Jvm.Cond.code ({ cls := "java/lang/StringUTF16", name := "newBytesLength", desc := "(I)I" } : Jvm.MethodName) jdk_52_method_3_code (1 : Nat) (Option.some Jvm.ClassFile.FieldType.int)).before a0 Z = true := hw _ (List.mem_of_getElem? (i := 84) rfl)
theorem w85 {Z : State} {a0 : Array Value} (hw : ∀ d ∈ tables_1, d.before a0 Z = true) : (Jvm.Cond.constant "java/lang/StringUTF16" (20 : Nat) (1073741823 : Int32)).before a0 Z = true := hw _ (List.mem_of_getElem? (i := 85) rfl)
theorem w86 {Z : State} {a0 : Array Value} (hw : ∀ d ∈ tables_1, d.before a0 Z = true) : (Jvm.Cond.methodLink "java/lang/StringUTF16" (111 : Nat) ({ cls := "java/lang/StringUTF16", name := "putChar", desc := "([BII)V" } : Jvm.MethodName)).before a0 Z = true := hw _ (List.mem_of_getElem? (i := 86) rfl)
theorem w87 {Z : State} {a0 : Array Value} (hw : ∀ d ∈ tables_1, d.before a0 Z = true) : (Jvm.Cond.static ({ cls := "java/lang/StringUTF16", name := "putChar", desc := "([BII)V" } : Jvm.MethodName)).before a0 Z = true := hw _ (List.mem_of_getElem? (i := 87) rfl)
theorem w88 {Z : State} {a0 : Array Value} (hw : ∀ d ∈ tables_1, d.before a0 Z = true) : (Jvm.Cond.code ({ cls := "java/lang/StringUTF16", name := "putChar", desc := "([BII)V" } : Jvm.MethodName) jdk_52_method_4_code (3 : Nat) (Option.none : Option Jvm.ClassFile.FieldType)).before a0 Z = true := hw _ (List.mem_of_getElem? (i := 88) rfl)
theorem w89 {Z : State} {a0 : Array Value} (hw : ∀ d ∈ tables_1, d.before a0 Z = true) : (Jvm.Cond.fieldLink "java/lang/StringUTF16" (44 : Nat) "java/lang/StringUTF16" "$assertionsDisabled" "Z").before a0 Z = true := hw _ (List.mem_of_getElem? (i := 89) rfl)
theorem w90 {Z : State} {a0 : Array Value} (hw : ∀ d ∈ tables_1, d.before a0 Z = true) : (Jvm.Cond.fieldLink "java/lang/StringUTF16" (59 : Nat) "java/lang/StringUTF16" "HI_BYTE_SHIFT" "I").before a0 Z = true := hw _ (List.mem_of_getElem? (i := 90) rfl)
theorem w91 {Z : State} {a0 : Array Value} (hw : ∀ d ∈ tables_1, d.before a0 Z = true) : (Jvm.Cond.fieldLink "java/lang/StringUTF16" (63 : Nat) "java/lang/StringUTF16" "LO_BYTE_SHIFT" "I").before a0 Z = true := hw _ (List.mem_of_getElem? (i := 91) rfl)
theorem w92 {Z : State} {a0 : Array Value} (hw : ∀ d ∈ tables_1, d.before a0 Z = true) : (Jvm.Cond.methodLink "java/lang/StringUTF16" (71 : Nat) ({ cls := "java/lang/StringUTF16", name := "getChar", desc := "([BI)C" } : Jvm.MethodName)).before a0 Z = true := hw _ (List.mem_of_getElem? (i := 92) rfl)
theorem w93 {Z : State} {a0 : Array Value} (hw : ∀ d ∈ tables_1, d.before a0 Z = true) : (Jvm.Cond.static ({ cls := "java/lang/StringUTF16", name := "getChar", desc := "([BI)C" } : Jvm.MethodName)).before a0 Z = true := hw _ (List.mem_of_getElem? (i := 93) rfl)
theorem w94 {Z : State} {a0 : Array Value} (hw : ∀ d ∈ tables_1, d.before a0 Z = true) : (Jvm.Cond.code ({ cls := "java/lang/StringUTF16", name := "getChar", desc := "([BI)C" } : Jvm.MethodName) jdk_52_method_5_code (2 : Nat) (Option.some Jvm.ClassFile.FieldType.char)).before a0 Z = true := hw _ (List.mem_of_getElem? (i := 94) rfl)
theorem w95 {Z : State} {a0 : Array Value} (hw : ∀ d ∈ tables_1, d.before a0 Z = true) : (Jvm.Cond.methodLink "java/lang/String" (498 : Nat) ({ cls := "java/lang/StringUTF16", name := "charAt", desc := "([BI)C" } : Jvm.MethodName)).before a0 Z = true := hw _ (List.mem_of_getElem? (i := 95) rfl)
theorem w96 {Z : State} {a0 : Array Value} (hw : ∀ d ∈ tables_1, d.before a0 Z = true) : (Jvm.Cond.static ({ cls := "java/lang/StringUTF16", name := "charAt", desc := "([BI)C" } : Jvm.MethodName)).before a0 Z = true := hw _ (List.mem_of_getElem? (i := 96) rfl)
theorem w97 {Z : State} {a0 : Array Value} (hw : ∀ d ∈ tables_1, d.before a0 Z = true) : (Jvm.Cond.code ({ cls := "java/lang/StringUTF16", name := "charAt", desc := "([BI)C" } : Jvm.MethodName) jdk_52_method_83_code (2 : Nat) (Option.some Jvm.ClassFile.FieldType.char)).before a0 Z = true := hw _ (List.mem_of_getElem? (i := 97) rfl)
theorem w98 {Z : State} {a0 : Array Value} (hw : ∀ d ∈ tables_1, d.before a0 Z = true) : (Jvm.Cond.methodLink "java/lang/StringUTF16" (67 : Nat) ({ cls := "java/lang/StringUTF16", name := "checkIndex", desc := "(I[B)V" } : Jvm.MethodName)).before a0 Z = true := hw _ (List.mem_of_getElem? (i := 98) rfl)
theorem w99 {Z : State} {a0 : Array Value} (hw : ∀ d ∈ tables_1, d.before a0 Z = true) : (Jvm.Cond.static ({ cls := "java/lang/StringUTF16", name := "checkIndex", desc := "(I[B)V" } : Jvm.MethodName)).before a0 Z = true := hw _ (List.mem_of_getElem? (i := 99) rfl)
theorem w100 {Z : State} {a0 : Array Value} (hw : ∀ d ∈ tables_1, d.before a0 Z = true) : (Jvm.Cond.code ({ cls := "java/lang/StringUTF16", name := "checkIndex", desc := "(I[B)V" } : Jvm.MethodName) jdk_52_method_91_code (2 : Nat) (Option.none : Option Jvm.ClassFile.FieldType)).before a0 Z = true := hw _ (List.mem_of_getElem? (i := 100) rfl)
theorem w101 {Z : State} {a0 : Array Value} (hw : ∀ d ∈ tables_1, d.before a0 Z = true) : (Jvm.Cond.methodLink "java/lang/StringUTF16" (48 : Nat) ({ cls := "java/lang/StringUTF16", name := "length", desc := "([B)I" } : Jvm.MethodName)).before a0 Z = true := hw _ (List.mem_of_getElem? (i := 101) rfl)
theorem w102 {Z : State} {a0 : Array Value} (hw : ∀ d ∈ tables_1, d.before a0 Z = true) : (Jvm.Cond.static ({ cls := "java/lang/StringUTF16", name := "length", desc := "([B)I" } : Jvm.MethodName)).before a0 Z = true := hw _ (List.mem_of_getElem? (i := 102) rfl)
theorem w103 {Z : State} {a0 : Array Value} (hw : ∀ d ∈ tables_1, d.before a0 Z = true) : (Jvm.Cond.code ({ cls := "java/lang/StringUTF16", name := "length", desc := "([B)I" } : Jvm.MethodName) jdk_52_method_6_code (1 : Nat) (Option.some Jvm.ClassFile.FieldType.int)).before a0 Z = true := hw _ (List.mem_of_getElem? (i := 103) rfl)
theorem w104 {Z : State} {a0 : Array Value} (hw : ∀ d ∈ tables_1, d.before a0 Z = true) : (Jvm.Cond.methodLink "java/lang/StringUTF16" (414 : Nat) ({ cls := "java/lang/String", name := "checkIndex", desc := "(II)V" } : Jvm.MethodName)).before a0 Z = true := hw _ (List.mem_of_getElem? (i := 104) rfl)
theorem w105 {Z : State} {a0 : Array Value} (hw : ∀ d ∈ tables_1, d.before a0 Z = true) : (Jvm.Cond.methodLink "com/example/fulla/fulla/model/Lattice" (68 : Nat) ({ cls := "java/lang/String", name := "length", desc := "()I" } : Jvm.MethodName)).before a0 Z = true := hw _ (List.mem_of_getElem? (i := 105) rfl)
theorem w106 {Z : State} {a0 : Array Value} (hw : ∀ d ∈ tables_1, d.before a0 Z = true) : (Jvm.Cond.declares ({ cls := "java/lang/String", name := "length", desc := "()I" } : Jvm.MethodName)).before a0 Z = true := hw _ (List.mem_of_getElem? (i := 106) rfl)
theorem w107 {Z : State} {a0 : Array Value} (hw : ∀ d ∈ tables_1, d.before a0 Z = true) : (Jvm.Cond.instanceMethod ({ cls := "java/lang/String", name := "length", desc := "()I" } : Jvm.MethodName)).before a0 Z = true := hw _ (List.mem_of_getElem? (i := 107) rfl)
theorem w108 {Z : State} {a0 : Array Value} (hw : ∀ d ∈ tables_1, d.before a0 Z = true) : (Jvm.Cond.selects "java/lang/String" ({ cls := "java/lang/String", name := "length", desc := "()I" } : Jvm.MethodName) ({ cls := "java/lang/String", name := "length", desc := "()I" } : Jvm.MethodName)).before a0 Z = true := hw _ (List.mem_of_getElem? (i := 108) rfl)
theorem w109 {Z : State} {a0 : Array Value} (hw : ∀ d ∈ tables_1, d.before a0 Z = true) : (Jvm.Cond.code ({ cls := "java/lang/String", name := "length", desc := "()I" } : Jvm.MethodName) jdk_42_method_54_code (1 : Nat) (Option.some Jvm.ClassFile.FieldType.int)).before a0 Z = true := hw _ (List.mem_of_getElem? (i := 109) rfl)
theorem w110 {Z : State} {a0 : Array Value} (hw : ∀ d ∈ tables_1, d.before a0 Z = true) : (Jvm.Cond.methodLink "java/lang/String" (335 : Nat) ({ cls := "java/lang/String", name := "coder", desc := "()B" } : Jvm.MethodName)).before a0 Z = true := hw _ (List.mem_of_getElem? (i := 110) rfl)
theorem w111 {Z : State} {a0 : Array Value} (hw : ∀ d ∈ tables_1, d.before a0 Z = true) : (Jvm.Cond.declares ({ cls := "java/lang/String", name := "coder", desc := "()B" } : Jvm.MethodName)).before a0 Z = true := hw _ (List.mem_of_getElem? (i := 111) rfl)
theorem w112 {Z : State} {a0 : Array Value} (hw : ∀ d ∈ tables_1, d.before a0 Z = true) : (Jvm.Cond.instanceMethod ({ cls := "java/lang/String", name := "coder", desc := "()B" } : Jvm.MethodName)).before a0 Z = true := hw _ (List.mem_of_getElem? (i := 112) rfl)
theorem w113 {Z : State} {a0 : Array Value} (hw : ∀ d ∈ tables_1, d.before a0 Z = true) : (Jvm.Cond.selects "java/lang/String" ({ cls := "java/lang/String", name := "coder", desc := "()B" } : Jvm.MethodName) ({ cls := "java/lang/String", name := "coder", desc := "()B" } : Jvm.MethodName)).before a0 Z = true := hw _ (List.mem_of_getElem? (i := 113) rfl)
theorem w114 {Z : State} {a0 : Array Value} (hw : ∀ d ∈ tables_1, d.before a0 Z = true) : (Jvm.Cond.code ({ cls := "java/lang/String", name := "coder", desc := "()B" } : Jvm.MethodName) jdk_42_method_152_code (1 : Nat) (Option.some Jvm.ClassFile.FieldType.byte)).before a0 Z = true := hw _ (List.mem_of_getElem? (i := 114) rfl)
theorem w115 {Z : State} {a0 : Array Value} (hw : ∀ d ∈ tables_1, d.before a0 Z = true) : (Jvm.Cond.methodLink "com/example/fulla/fulla/model/LatticeIsNamePinLaw" (24 : Nat) ({ cls := "com/example/fulla/fulla/model/LatticeIsNamePinLaw", name := "later", desc := "(C)Z" } : Jvm.MethodName)).before a0 Z = true := hw _ (List.mem_of_getElem? (i := 115) rfl)
theorem w116 {Z : State} {a0 : Array Value} (hw : ∀ d ∈ tables_1, d.before a0 Z = true) : (Jvm.Cond.static ({ cls := "com/example/fulla/fulla/model/LatticeIsNamePinLaw", name := "later", desc := "(C)Z" } : Jvm.MethodName)).before a0 Z = true := hw _ (List.mem_of_getElem? (i := 116) rfl)
theorem w117 {Z : State} {a0 : Array Value} (hw : ∀ d ∈ tables_1, d.before a0 Z = true) : (Jvm.Cond.code ({ cls := "com/example/fulla/fulla/model/LatticeIsNamePinLaw", name := "later", desc := "(C)Z" } : Jvm.MethodName) method_3_code (1 : Nat) (Option.some Jvm.ClassFile.FieldType.boolean)).before a0 Z = true := hw _ (List.mem_of_getElem? (i := 117) rfl)
abbrev y_0 : MethodName := (⟨"jdk/internal/util/Preconditions", "checkIndex", "(IILjava/util/function/BiFunction;)I"⟩ : MethodName)
abbrev y_1 : MethodName := (⟨"java/lang/String", "checkIndex", "(II)V"⟩ : MethodName)
abbrev y_2 : MethodName := (⟨"java/lang/StringLatin1", "charAt", "([BI)C"⟩ : MethodName)
abbrev y_3 : MethodName := (⟨"java/lang/String", "isLatin1", "()Z"⟩ : MethodName)
abbrev y_4 : MethodName := (⟨"java/lang/String", "coder", "()B"⟩ : MethodName)
abbrev y_5 : MethodName := (⟨"java/lang/String", "length", "()I"⟩ : MethodName)
abbrev y_6 : MethodName := (⟨"java/lang/String", "isEmpty", "()Z"⟩ : MethodName)
abbrev y_7 : MethodName := (⟨"java/lang/StringUTF16", "getChar", "([BI)C"⟩ : MethodName)
abbrev y_8 : MethodName := (⟨"java/lang/StringUTF16", "length", "([B)I"⟩ : MethodName)
abbrev y_9 : MethodName := (⟨"java/lang/StringUTF16", "checkIndex", "(I[B)V"⟩ : MethodName)
abbrev y_10 : MethodName := (⟨"java/lang/StringUTF16", "charAt", "([BI)C"⟩ : MethodName)
abbrev y_11 : MethodName := (⟨"java/lang/String", "charAt", "(I)C"⟩ : MethodName)
abbrev y_12 : MethodName := (⟨"java/lang/StringUTF16", "putChar", "([BII)V"⟩ : MethodName)
abbrev y_13 : MethodName := (⟨"java/lang/StringUTF16", "compress", "([CI[BII)I"⟩ : MethodName)
abbrev y_14 : MethodName := (⟨"java/lang/StringUTF16", "newBytesLength", "(I)I"⟩ : MethodName)
abbrev y_15 : MethodName := (⟨"java/lang/StringUTF16", "newBytesFor", "(I)[B"⟩ : MethodName)
abbrev y_16 : MethodName := (⟨"java/lang/StringUTF16", "toBytes", "([CII)[B"⟩ : MethodName)
abbrev y_17 : MethodName := (⟨"java/lang/StringUTF16", "compress", "([CII)[B"⟩ : MethodName)
abbrev y_18 : MethodName := (⟨"java/lang/StringUTF16", "coderFromArrayLen", "([BI)B"⟩ : MethodName)
abbrev y_19 : MethodName := (⟨"java/lang/String", "<init>", "([CIILjava/lang/Void;)V"⟩ : MethodName)
abbrev y_20 : MethodName := (⟨"java/lang/String", "<init>", "([C)V"⟩ : MethodName)
abbrev y_21 : MethodName := (⟨"com/example/fulla/fulla/model/Lattice", "isAsciiLetter", "(C)Z"⟩ : MethodName)
abbrev y_22 : MethodName := (⟨"com/example/fulla/fulla/model/LatticeIsNamePinLaw", "letter", "(C)Z"⟩ : MethodName)
abbrev y_23 : MethodName := (⟨"com/example/fulla/fulla/model/LatticeIsNamePinLaw", "later", "(C)Z"⟩ : MethodName)
abbrev y_24 : MethodName := (⟨"com/example/fulla/fulla/model/Lattice", "isName", "(Ljava/lang/String;)Z"⟩ : MethodName)
abbrev y_25 : MethodName := (⟨"com/example/fulla/fulla/model/LatticeIsNamePinLaw", "make", "(ICCCCC)[C"⟩ : MethodName)

abbrev own_LP (vs : List Value) (i z r : Int32) : Prop := ((¬ i < (0 : Int32) ∧ i < z) ∧ ∃ x : Int32, vs.getD i.toNatClampNeg (.int (0 : Int32)) = .int x ∧ nar .char ((x &&& (255 : Int32)).toUInt32.toUInt16.toUInt32.toInt32) = r)
abbrev own_UP (vs : List Value) (i z r : Int32) : Prop := ((¬ i < (0 : Int32) ∧ i < (z >>> ((1 : Int32) &&& 31))) ∧ (¬ (i <<< ((1 : Int32) &&& 31)) < (0 : Int32) ∧ (i <<< ((1 : Int32) &&& 31)) < z) ∧ (¬ ((i <<< ((1 : Int32) &&& 31)) + (1 : Int32)) < (0 : Int32) ∧ ((i <<< ((1 : Int32) &&& 31)) + (1 : Int32)) < z) ∧ ∃ x0 x1 : Int32, vs.getD ((i <<< ((1 : Int32) &&& 31))).toNatClampNeg (.int (0 : Int32)) = .int x0 ∧ vs.getD (((i <<< ((1 : Int32) &&& 31)) + (1 : Int32))).toNatClampNeg (.int (0 : Int32)) = .int x1 ∧ nar .char ((((x0 &&& (255 : Int32)) <<< ((0 : Int32) &&& 31)) ||| ((x1 &&& (255 : Int32)) <<< ((8 : Int32) &&& 31))).toUInt32.toUInt16.toUInt32.toInt32) = r)

theorem d15_0 : decode jdk_41_method_11_code 0 = .ok (.iload_n 0, 1) := by decide +kernel
theorem d15_1 : decode jdk_41_method_11_code 1 = .ok (.ifCond .lt 8, 3) := by decide +kernel
theorem d15_4 : decode jdk_41_method_11_code 4 = .ok (.iload_n 0, 1) := by decide +kernel
theorem d15_5 : decode jdk_41_method_11_code 5 = .ok (.iload_n 1, 1) := by decide +kernel
theorem d15_6 : decode jdk_41_method_11_code 6 = .ok (.if_icmp .lt 10, 3) := by decide +kernel
theorem d15_16 : decode jdk_41_method_11_code 16 = .ok (.iload_n 0, 1) := by decide +kernel
theorem d15_17 : decode jdk_41_method_11_code 17 = .ok (.ireturn, 1) := by decide +kernel
theorem pn_15 : plainName "jdk/internal/util/Preconditions" = true := by first | (simp [plainName, overriddenIn]; done) | decide +kernel
theorem ef_rm_cipN (m : MethodId) (x0 : Int32) (x1 : Int32) : entryFrame m #[(.int x0), (.int x1), .null] 3 = mkF m 0 #[.val (.int x0), .val (.int x1), .val .null] [] := by first | (simp [entryFrame, mkF, argsToLocals, Value.category]; done) | rfl
def Q_rm_cipN (Z : State) (i : Int32) (n : Int32) (h0 : Heap) (n0 : Nat) (v : Option Value) (h : Heap) (L : List Loc) : Prop := v = some (.int i) ∧ Fr n0 L ∧ h = h0
set_option maxRecDepth 65536 in
set_option maxHeartbeats 40000000 in
theorem rm_cipN (l : Launch) (Z : State) (a0 : Array Value) (hw : ∀ d ∈ tables_1, d.before a0 Z = true) (wz : List Jvm.Cond) (i : Int32) (n : Int32) (h0 : Heap) (n0 : Nat) (O0 : Old Z n0 h0) (h1 : ¬ i < (0 : Int32)) (h2 : i < n) :
    MetFree l y_0 (head1 (Jvm.Cond.code y_0 jdk_41_method_11_code 3 (some .int) :: wz) ({ frames := 0, cells := 0, slots := 0, locals := 0 } : Room)) (fun aZ UZ => aZ = #[(.int i), (.int n), .null] ∧ Z.Warmed39 UZ.vm ∧ UZ.heap = h0) (fun _ _ _ _ _ => True) (fun _ UZ oZ UY => ∃ vZ LZ, oZ = .returned vZ ∧ Q_rm_cipN Z i n h0 n0 vZ UY.heap LZ ∧ FrameEnd UZ oZ UY LZ ({ frames := 0, cells := 0, slots := 0, locals := 0 } : Room).cells ({ frames := 0, cells := 0, slots := 0, locals := 0 } : Room).slots) := by
  refine MetFree.of_bodySF (plainFor_of_name pn_15) hisR ?_
  intro p e s m args below meth c s₁ Bd hml0 hP hK
  obtain ⟨rfl, hZ, hh⟩ := hP
  have hx := Bd.exec
  have hby := Bd.bytes
  have hml : c.maxLocals = 3 := hml0
  have hown : s.vm.findClass "jdk/internal/util/Preconditions" = some m.cls := findClass_of_methodNamed Bd.named
  have hnm := (name_of_methodNamed Bd.named Bd.method).1
  have X0 : Stand p l e ({ frames := 0, cells := 0, slots := 0, locals := 0 } : Room) s m #[(.int i), (.int n), .null] below meth c s₁ [] 0 0 := Stand.of_body Bd
  have e0 : s₁.heap = h0 := by rw [← hh, Bd.state]; rfl
  have N0 := Fr.nil n0
  have Z0 : n0 ≤ h0.size := O0.1 ▸ O0.2.1
  have K0 := Keep.refl h0 []
  show Go p e below (fun oW tW LW => FrameEnd s oW tW LW ({ frames := 0, cells := 0, slots := 0, locals := 0 } : Room).cells ({ frames := 0, cells := 0, slots := 0, locals := 0 } : Room).slots) (Q_rm_cipN Z i n h0 n0) s₁ (entryFrame m #[(.int i), (.int n), .null] 3)
  refine Go.of (fun t kz => castTop (ef_rm_cipN m i n) kz) ?_
  show Go _ _ _ _ _ s₁ (mkF m 0 #[.val (.int i), .val (.int n), .val .null] [])
  refine Go.of (fun _ kz => XS.iloadN X0.here hx rfl (hb hby d15_0) rfl kz) ?_
  refine Go.of (fun _ kz => XS.ifNo X0.here hx rfl (hb hby d15_1) rfl ((if0 _ _).trans (flt h1).1) kz) ?_
  refine Go.of (fun _ kz => XS.iloadN X0.here hx rfl (hb hby d15_4) rfl (XS.iloadN X0.here hx rfl (hb hby d15_5) rfl kz)) ?_
  refine Go.of (fun _ kz => XS.icmpYes X0.here hx rfl (pc0 := 6) (pc' := 16) rfl (hb hby d15_6) rfl (tlt h2).1 (by decide) (by decide) kz) ?_
  refine Go.of (fun _ kz => XS.iloadN X0.here hx rfl (hb hby d15_16) rfl kz) ?_
  refine Go.ret X0 (v := some (.int i)) (fun h => by rw [Bd.returns] at h; cases h) Bd.notSynchronized (fun fs hr => own_retI X0 hx Bd.returns (hb hby d15_17) hr) (by decide) (by decide) ?_
  show Q_rm_cipN Z _ _ h0 n0 _ s₁.heap _
  rw [e0]
  exact ⟨rfl, N0, rfl⟩

theorem ef_rm_cipR (m : MethodId) (x0 : Int32) (x1 : Int32) (x2 : Addr) : entryFrame m #[(.int x0), (.int x1), (.ref x2)] 3 = mkF m 0 #[.val (.int x0), .val (.int x1), .val (.ref x2)] [] := by first | (simp [entryFrame, mkF, argsToLocals, Value.category]; done) | rfl
def Q_rm_cipR (Z : State) (i : Int32) (n : Int32) (f : Addr) (h0 : Heap) (n0 : Nat) (v : Option Value) (h : Heap) (L : List Loc) : Prop := v = some (.int i) ∧ Fr n0 L ∧ h = h0
set_option maxRecDepth 65536 in
set_option maxHeartbeats 40000000 in
theorem rm_cipR (l : Launch) (Z : State) (a0 : Array Value) (hw : ∀ d ∈ tables_1, d.before a0 Z = true) (wz : List Jvm.Cond) (i : Int32) (n : Int32) (f : Addr) (h0 : Heap) (n0 : Nat) (O0 : Old Z n0 h0) (h1 : ¬ i < (0 : Int32)) (h2 : i < n) :
    MetFree l y_0 (head1 (Jvm.Cond.code y_0 jdk_41_method_11_code 3 (some .int) :: wz) ({ frames := 0, cells := 0, slots := 0, locals := 0 } : Room)) (fun aZ UZ => aZ = #[(.int i), (.int n), (.ref f)] ∧ Z.Warmed39 UZ.vm ∧ UZ.heap = h0) (fun _ _ _ _ _ => True) (fun _ UZ oZ UY => ∃ vZ LZ, oZ = .returned vZ ∧ Q_rm_cipR Z i n f h0 n0 vZ UY.heap LZ ∧ FrameEnd UZ oZ UY LZ ({ frames := 0, cells := 0, slots := 0, locals := 0 } : Room).cells ({ frames := 0, cells := 0, slots := 0, locals := 0 } : Room).slots) := by
  refine MetFree.of_bodySF (plainFor_of_name pn_15) hisR ?_
  intro p e s m args below meth c s₁ Bd hml0 hP hK
  obtain ⟨rfl, hZ, hh⟩ := hP
  have hx := Bd.exec
  have hby := Bd.bytes
  have hml : c.maxLocals = 3 := hml0
  have hown : s.vm.findClass "jdk/internal/util/Preconditions" = some m.cls := findClass_of_methodNamed Bd.named
  have hnm := (name_of_methodNamed Bd.named Bd.method).1
  have X0 : Stand p l e ({ frames := 0, cells := 0, slots := 0, locals := 0 } : Room) s m #[(.int i), (.int n), (.ref f)] below meth c s₁ [] 0 0 := Stand.of_body Bd
  have e0 : s₁.heap = h0 := by rw [← hh, Bd.state]; rfl
  have N0 := Fr.nil n0
  have Z0 : n0 ≤ h0.size := O0.1 ▸ O0.2.1
  have K0 := Keep.refl h0 []
  show Go p e below (fun oW tW LW => FrameEnd s oW tW LW ({ frames := 0, cells := 0, slots := 0, locals := 0 } : Room).cells ({ frames := 0, cells := 0, slots := 0, locals := 0 } : Room).slots) (Q_rm_cipR Z i n f h0 n0) s₁ (entryFrame m #[(.int i), (.int n), (.ref f)] 3)
  refine Go.of (fun t kz => castTop (ef_rm_cipR m i n f) kz) ?_
  show Go _ _ _ _ _ s₁ (mkF m 0 #[.val (.int i), .val (.int n), .val (.ref f)] [])
  refine Go.of (fun _ kz => XS.iloadN X0.here hx rfl (hb hby d15_0) rfl kz) ?_
  refine Go.of (fun _ kz => XS.ifNo X0.here hx rfl (hb hby d15_1) rfl ((if0 _ _).trans (flt h1).1) kz) ?_
  refine Go.of (fun _ kz => XS.iloadN X0.here hx rfl (hb hby d15_4) rfl (XS.iloadN X0.here hx rfl (hb hby d15_5) rfl kz)) ?_
  refine Go.of (fun _ kz => XS.icmpYes X0.here hx rfl (pc0 := 6) (pc' := 16) rfl (hb hby d15_6) rfl (tlt h2).1 (by decide) (by decide) kz) ?_
  refine Go.of (fun _ kz => XS.iloadN X0.here hx rfl (hb hby d15_16) rfl kz) ?_
  refine Go.ret X0 (v := some (.int i)) (fun h => by rw [Bd.returns] at h; cases h) Bd.notSynchronized (fun fs hr => own_retI X0 hx Bd.returns (hb hby d15_17) hr) (by decide) (by decide) ?_
  show Q_rm_cipR Z _ _ _ h0 n0 _ s₁.heap _
  rw [e0]
  exact ⟨rfl, N0, rfl⟩

theorem rm_cip (l : Launch) (Z : State) (a0 : Array Value) (hw : ∀ d ∈ tables_1, d.before a0 Z = true) (wz : List Jvm.Cond) (i n : Int32) (vf : Value) (h0 : Heap) (n0 : Nat) (O0 : Old Z n0 h0) (hvf : vf.isRef = true) (h1 : ¬ i < (0 : Int32)) (h2 : i < n) :
    MetFree l (⟨"jdk/internal/util/Preconditions", "checkIndex", "(IILjava/util/function/BiFunction;)I"⟩ : MethodName) (head1 (Jvm.Cond.code (⟨"jdk/internal/util/Preconditions", "checkIndex", "(IILjava/util/function/BiFunction;)I"⟩ : MethodName) jdk_41_method_11_code 3 (some .int) :: wz) ({ frames := 0, cells := 0, slots := 0, locals := 0 } : Room)) (fun aZ UZ => aZ = #[(.int i), (.int n), vf] ∧ Z.Warmed39 UZ.vm ∧ UZ.heap = h0) (fun _ _ _ _ _ => True) (fun _ UZ oZ UY => ∃ vZ LZ, oZ = .returned vZ ∧ Q_rm_cipN Z i n h0 n0 vZ UY.heap LZ ∧ FrameEnd UZ oZ UY LZ ({ frames := 0, cells := 0, slots := 0, locals := 0 } : Room).cells ({ frames := 0, cells := 0, slots := 0, locals := 0 } : Room).slots) := by
  rcases ref_cases hvf with rfl | ⟨f, rfl⟩
  · exact rm_cipN l Z a0 hw wz i n h0 n0 O0 h1 h2
  · exact rm_cipR l Z a0 hw wz i n f h0 n0 O0 h1 h2

theorem d14_0 : decode jdk_42_method_155_code 0 = .ok (.iload_n 0, 1) := by decide +kernel
theorem d14_1 : decode jdk_42_method_155_code 1 = .ok (.iload_n 1, 1) := by decide +kernel
theorem d14_2 : decode jdk_42_method_155_code 2 = .ok (.getstatic 1053, 3) := by decide +kernel
theorem d14_5 : decode jdk_42_method_155_code 5 = .ok (.invokestatic 1059, 3) := by decide +kernel
theorem d14_8 : decode jdk_42_method_155_code 8 = .ok (.pop, 1) := by decide +kernel
theorem d14_9 : decode jdk_42_method_155_code 9 = .ok (.return_, 1) := by decide +kernel
theorem pn_14 : plainName "java/lang/String" = true := by first | (simp [plainName, overriddenIn]; done) | decide +kernel
theorem pd_0 : parseMethodDescriptor "(IILjava/util/function/BiFunction;)I" = some ⟨[.int, .int, (.object "java/util/function/BiFunction")], some .int⟩ := by decide +kernel
theorem ef_rm_sci (m : MethodId) (x0 : Int32) (x1 : Int32) : entryFrame m #[(.int x0), (.int x1)] 2 = mkF m 0 #[.val (.int x0), .val (.int x1)] [] := by first | (simp [entryFrame, mkF, argsToLocals, Value.category]; done) | rfl
def Q_rm_sci (Z : State) (i : Int32) (n : Int32) (vf : Value) (h0 : Heap) (n0 : Nat) (v : Option Value) (h : Heap) (L : List Loc) : Prop := v = none ∧ Fr n0 L ∧ h = h0
set_option maxRecDepth 65536 in
set_option maxHeartbeats 40000000 in
theorem rm_sci (l : Launch) (Z : State) (a0 : Array Value) (hw : ∀ d ∈ tables_1, d.before a0 Z = true) (wz : List Jvm.Cond) (i : Int32) (n : Int32) (vf : Value) (h0 : Heap) (n0 : Nat) (O0 : Old Z n0 h0) (Sf : Sta Z Z.heap "jdk/internal/util/Preconditions" "SIOOBE_FORMATTER" "Ljava/util/function/BiFunction;" vf) (hvf : vf.isRef = true) (h1 : ¬ i < (0 : Int32)) (h2 : i < n) :
    MetFree l y_1 (head1 (Jvm.Cond.code y_1 jdk_42_method_155_code 2 none :: wz) ({ frames := 1, cells := 0, slots := 0, locals := 14 } : Room)) (fun aZ UZ => aZ = #[(.int i), (.int n)] ∧ Z.Warmed39 UZ.vm ∧ UZ.heap = h0) (fun _ _ _ _ _ => True) (fun _ UZ oZ UY => ∃ vZ LZ, oZ = .returned vZ ∧ Q_rm_sci Z i n vf h0 n0 vZ UY.heap LZ ∧ FrameEnd UZ oZ UY LZ ({ frames := 1, cells := 0, slots := 0, locals := 14 } : Room).cells ({ frames := 1, cells := 0, slots := 0, locals := 14 } : Room).slots) := by
  refine MetFree.of_bodySF (plainFor_of_name pn_14) hisR ?_
  intro p e s m args below meth c s₁ Bd hml0 hP hK
  obtain ⟨rfl, hZ, hh⟩ := hP
  have hx := Bd.exec
  have hby := Bd.bytes
  have hml : c.maxLocals = 2 := hml0
  have hown : s.vm.findClass "java/lang/String" = some m.cls := findClass_of_methodNamed Bd.named
  have hnm := (name_of_methodNamed Bd.named Bd.method).1
  have X0 : Stand p l e ({ frames := 1, cells := 0, slots := 0, locals := 14 } : Room) s m #[(.int i), (.int n)] below meth c s₁ [] 0 0 := Stand.of_body Bd
  have e0 : s₁.heap = h0 := by rw [← hh, Bd.state]; rfl
  have N0 := Fr.nil n0
  have Z0 : n0 ≤ h0.size := O0.1 ▸ O0.2.1
  have K0 := Keep.refl h0 []
  show Go p e below (fun oW tW LW => FrameEnd s oW tW LW ({ frames := 1, cells := 0, slots := 0, locals := 14 } : Room).cells ({ frames := 1, cells := 0, slots := 0, locals := 14 } : Room).slots) (Q_rm_sci Z i n vf h0 n0) s₁ (entryFrame m #[(.int i), (.int n)] 2)
  refine Go.of (fun t kz => castTop (ef_rm_sci m i n) kz) ?_
  show Go _ _ _ _ _ s₁ (mkF m 0 #[.val (.int i), .val (.int n)] [])
  refine Go.of (fun _ kz => XS.iloadN X0.here hx rfl (hb hby d14_0) rfl (XS.iloadN X0.here hx rfl (hb hby d14_1) rfl kz)) ?_
  show Go _ _ _ _ _ s₁ (mkF m 2 #[.val (.int i), .val (.int n)] [(.int n), (.int i)])
  refine Go.getS X0 hx hZ hown (host := "") (Or.inl (w68 hw)) Via.refl e0 ((Sf).ext O0.2) (hb hby d14_2) fun T1 X1 e1 => ?_
  show Go _ _ _ _ _ T1 (mkF m 5 #[.val (.int i), .val (.int n)] [vf, (.int n), (.int i)])
  refine Go.callS X1 hx hZ hown (y := y_0) (w70 hw) (w71 hw) (w69 hw) (w72 hw) (by decide) (rm_cip l Z a0 hw [] i n vf h0 n0 O0 hvf h1 h2) e1 0 (by decide) (by decide) (by rw [hml]; rfl) (argsL := [(.int i), (.int n), vf]) (rest := []) (lenOf pd_0 rfl) rfl rfl (Nat.le_of_eq rfl) (hb hby d14_5) (c2 := 0) (s2 := 0) rfl rfl (by decide) (by decide) fun v2 T2 Lc2 L2 X2 l2 hQ2 => ?_
  obtain ⟨rfl, N2q, e2⟩ := hQ2
  have N2 : Fr n0 L2 := by rw [l2]; exact Fr.app N0 N2q
  refine Go.of (fun _ kz => XS.pop X2.here hx rfl (hb hby d14_8) rfl rfl kz) ?_
  refine Go.ret X2 (v := none) (fun _ => rfl) Bd.notSynchronized (fun fs hr => X2.returnOut hx Bd.returns (hb hby d14_9) hr) (by decide) (by decide) ?_
  show Q_rm_sci Z _ _ _ h0 n0 _ T2.heap _
  rw [e2]
  exact ⟨rfl, N2, rfl⟩

theorem d13_0 : decode jdk_43_method_2_code 0 = .ok (.iload_n 1, 1) := by decide +kernel
theorem d13_1 : decode jdk_43_method_2_code 1 = .ok (.aload_n 0, 1) := by decide +kernel
theorem d13_2 : decode jdk_43_method_2_code 2 = .ok (.arraylength, 1) := by decide +kernel
theorem d13_3 : decode jdk_43_method_2_code 3 = .ok (.invokestatic 9, 3) := by decide +kernel
theorem d13_6 : decode jdk_43_method_2_code 6 = .ok (.aload_n 0, 1) := by decide +kernel
theorem d13_7 : decode jdk_43_method_2_code 7 = .ok (.iload_n 1, 1) := by decide +kernel
theorem d13_8 : decode jdk_43_method_2_code 8 = .ok (.baload, 1) := by decide +kernel
theorem d13_9 : decode jdk_43_method_2_code 9 = .ok (.sipush 255, 3) := by decide +kernel
theorem d13_12 : decode jdk_43_method_2_code 12 = .ok (.iand, 1) := by decide +kernel
theorem d13_13 : decode jdk_43_method_2_code 13 = .ok (.i2c, 1) := by decide +kernel
theorem d13_14 : decode jdk_43_method_2_code 14 = .ok (.ireturn, 1) := by decide +kernel
theorem pn_13 : plainName "java/lang/StringLatin1" = true := by first | (simp [plainName, overriddenIn]; done) | decide +kernel
theorem pd_1 : parseMethodDescriptor "(II)V" = some ⟨[.int, .int], none⟩ := by decide +kernel
theorem ef_rm_l1ch (m : MethodId) (x0 : Addr) (x1 : Int32) : entryFrame m #[(.ref x0), (.int x1)] 2 = mkF m 0 #[.val (.ref x0), .val (.int x1)] [] := by first | (simp [entryFrame, mkF, argsToLocals, Value.category]; done) | rfl
def Q_rm_l1ch (Z : State) (b : Addr) (i : Int32) (kb : ClassId) (z : Int32) (vs : List Value) (x : Int32) (r : Int32) (vf : Value) (h0 : Heap) (n0 : Nat) (v : Option Value) (h : Heap) (L : List Loc) : Prop := v = some (.int r) ∧ Fr n0 L ∧ h = h0
set_option maxRecDepth 65536 in
set_option maxHeartbeats 40000000 in
theorem rm_l1ch (l : Launch) (Z : State) (a0 : Array Value) (hw : ∀ d ∈ tables_1, d.before a0 Z = true) (wz : List Jvm.Cond) (b : Addr) (i : Int32) (kb : ClassId) (z : Int32) (vs : List Value) (x : Int32) (r : Int32) (vf : Value) (h0 : Heap) (n0 : Nat) (O0 : Old Z n0 h0) (Vb : Arv Z h0 b kb .byte z vs (.int (0 : Int32))) (Sf : Sta Z Z.heap "jdk/internal/util/Preconditions" "SIOOBE_FORMATTER" "Ljava/util/function/BiFunction;" vf) (hvf : vf.isRef = true) (hi : ¬ i < (0 : Int32) ∧ i < z) (hv : vs.getD i.toNatClampNeg (.int (0 : Int32)) = .int x) (hr : nar .char ((x &&& (255 : Int32)).toUInt32.toUInt16.toUInt32.toInt32) = r) :
    MetFree l y_2 (head1 (Jvm.Cond.code y_2 jdk_43_method_2_code 2 (some .char) :: wz) ({ frames := 2, cells := 0, slots := 0, locals := 27 } : Room)) (fun aZ UZ => aZ = #[(.ref b), (.int i)] ∧ Z.Warmed39 UZ.vm ∧ UZ.heap = h0) (fun _ _ _ _ _ => True) (fun _ UZ oZ UY => ∃ vZ LZ, oZ = .returned vZ ∧ Q_rm_l1ch Z b i kb z vs x r vf h0 n0 vZ UY.heap LZ ∧ FrameEnd UZ oZ UY LZ ({ frames := 2, cells := 0, slots := 0, locals := 27 } : Room).cells ({ frames := 2, cells := 0, slots := 0, locals := 27 } : Room).slots) := by
  refine MetFree.of_bodySF (plainFor_of_name pn_13) hisR ?_
  intro p e s m args below meth c s₁ Bd hml0 hP hK
  obtain ⟨rfl, hZ, hh⟩ := hP
  have hx := Bd.exec
  have hby := Bd.bytes
  have hml : c.maxLocals = 2 := hml0
  have hown : s.vm.findClass "java/lang/StringLatin1" = some m.cls := findClass_of_methodNamed Bd.named
  have hnm := (name_of_methodNamed Bd.named Bd.method).1
  have X0 : Stand p l e ({ frames := 2, cells := 0, slots := 0, locals := 27 } : Room) s m #[(.ref b), (.int i)] below meth c s₁ [] 0 0 := Stand.of_body Bd
  have e0 : s₁.heap = h0 := by rw [← hh, Bd.state]; rfl
  have N0 := Fr.nil n0
  have Z0 : n0 ≤ h0.size := O0.1 ▸ O0.2.1
  have K0 := Keep.refl h0 []
  show Go p e below (fun oW tW LW => FrameEnd s oW tW LW ({ frames := 2, cells := 0, slots := 0, locals := 27 } : Room).cells ({ frames := 2, cells := 0, slots := 0, locals := 27 } : Room).slots) (Q_rm_l1ch Z b i kb z vs x r vf h0 n0) s₁ (entryFrame m #[(.ref b), (.int i)] 2)
  refine Go.of (fun t kz => castTop (ef_rm_l1ch m b i) kz) ?_
  show Go _ _ _ _ _ s₁ (mkF m 0 #[.val (.ref b), .val (.int i)] [])
  refine Go.of (fun _ kz => XS.iloadN X0.here hx rfl (hb hby d13_0) rfl (XS.aloadN X0.here hx rfl (hb hby d13_1) rfl rfl kz)) ?_
  obtain ⟨cl1a, Ar1a, q1a, S1a, N1a, H1a, G1a⟩ := id Vb
  refine Go.of (fun _ kz => X0.arraylength hx (by rw [e0]; exact Ar1a.1) (State.isArrayOf_alike hZ.alike Ar1a.2.1) (g := (mkF m 2 #[.val (.ref b), .val (.int i)] [(.ref b), (.int i)])) rfl rfl (hb hby d13_2) _ kz) ?_
  rw [(len_of S1a N1a)]
  show Go _ _ _ _ _ s₁ (mkF m 3 #[.val (.ref b), .val (.int i)] [(.int z), (.int i)])
  refine Go.callS X0 hx hZ hown (y := y_1) (w65 hw) (w66 hw) (w4 hw) (w67 hw) (by decide) (rm_sci l Z a0 hw [] i z vf h0 n0 O0 Sf hvf hi.1 hi.2) e0 0 (by decide) (by decide) (by rw [hml]; rfl) (argsL := [(.int i), (.int z)]) (rest := []) (lenOf pd_1 rfl) rfl rfl (Nat.le_of_eq rfl) (hb hby d13_3) (c2 := 0) (s2 := 0) rfl rfl (by decide) (by decide) fun v2 T2 Lc2 L2 X2 l2 hQ2 => ?_
  obtain ⟨rfl, N2q, e2⟩ := hQ2
  have N2 : Fr n0 L2 := by rw [l2]; exact Fr.app N0 N2q
  refine Go.of (fun _ kz => XS.aloadN X2.here hx rfl (hb hby d13_6) rfl rfl (XS.iloadN X2.here hx rfl (hb hby d13_7) rfl kz)) ?_
  obtain ⟨cl3a, Ar3a, q3a, S3a, N3a, H3a, G3a⟩ := id Vb
  have hin3 := inb_of S3a (j := i) hi
  refine Go.of (fun _ kz => X2.baloadBytes hx (j := i) (v := (.int x)) (by rw [e2]; exact Ar3a.1) (State.isArrayOf_alike hZ.alike Ar3a.2.1) Ar3a.2.2 hin3 (H3a.at hin3 hv) (g := (mkF m 8 #[.val (.ref b), .val (.int i)] [(.int i), (.ref b)])) rfl rfl (hb hby d13_8) _ kz) ?_
  refine Go.of (fun _ kz => XS.sipush X2.here hx rfl (hb hby d13_9) (XS.iand X2.here hx rfl (hb hby d13_12) rfl (XS.i2c X2.here hx rfl (hb hby d13_13) rfl kz))) ?_
  show Go _ _ _ _ _ T2 (mkF m 14 #[.val (.ref b), .val (.int i)] [(.int ((x &&& (255 : Int32)).toUInt32.toUInt16.toUInt32.toInt32))])
  refine Go.ret X2 (v := some (.int (nar .char ((x &&& (255 : Int32)).toUInt32.toUInt16.toUInt32.toInt32)))) (fun h => by rw [Bd.returns] at h; cases h) Bd.notSynchronized (fun fs hr => retN X2 hx (t := .char) Bd.returns (by simp) (hb hby d13_14) hr) (by decide) (by decide) ?_
  show Q_rm_l1ch Z _ _ _ _ _ _ _ _ h0 n0 _ T2.heap _
  rw [e2]
  exact ⟨by rw [← hr], N2, rfl⟩

theorem d12_0 : decode jdk_42_method_154_code 0 = .ok (.getstatic 38, 3) := by decide +kernel
theorem d12_3 : decode jdk_42_method_154_code 3 = .ok (.ifCond .eq 14, 3) := by decide +kernel
theorem d12_6 : decode jdk_42_method_154_code 6 = .ok (.aload_n 0, 1) := by decide +kernel
theorem d12_7 : decode jdk_42_method_154_code 7 = .ok (.getfield 15, 3) := by decide +kernel
theorem d12_10 : decode jdk_42_method_154_code 10 = .ok (.ifCond .ne 7, 3) := by decide +kernel
theorem d12_13 : decode jdk_42_method_154_code 13 = .ok (.iconst 1, 1) := by decide +kernel
theorem d12_14 : decode jdk_42_method_154_code 14 = .ok (.goto 4, 3) := by decide +kernel
theorem d12_17 : decode jdk_42_method_154_code 17 = .ok (.iconst 0, 1) := by decide +kernel
theorem d12_18 : decode jdk_42_method_154_code 18 = .ok (.ireturn, 1) := by decide +kernel
theorem pn_12 : plainName "java/lang/String" = true := by first | (simp [plainName, overriddenIn]; done) | decide +kernel
theorem ef_rm_isl (m : MethodId) (x0 : Addr) : entryFrame m #[(.ref x0)] 1 = mkF m 0 #[.val (.ref x0)] [] := by first | (simp [entryFrame, mkF, argsToLocals, Value.category]; done) | rfl
def Q_rm_isl (Z : State) (a : Addr) (cd : Int32) (csz : Int32) (r : Int32) (h0 : Heap) (n0 : Nat) (v : Option Value) (h : Heap) (L : List Loc) : Prop := v = some (.int r) ∧ Fr n0 L ∧ h = h0
set_option maxRecDepth 65536 in
set_option maxHeartbeats 40000000 in
theorem rm_isl (l : Launch) (Z : State) (a0 : Array Value) (hw : ∀ d ∈ tables_1, d.before a0 Z = true) (wz : List Jvm.Cond) (a : Addr) (cd : Int32) (csz : Int32) (r : Int32) (h0 : Heap) (n0 : Nat) (O0 : Old Z n0 h0) (Fc : Fld Z h0 a "java/lang/String" "coder" "B" (.int cd)) (Scs : Sta Z Z.heap "java/lang/String" "COMPACT_STRINGS" "Z" (.int csz)) (hcs : ¬ csz = (0 : Int32)) (hr : (if cd = (0 : Int32) then (1 : Int32) else 0) = r) :
    MetFree l y_3 (head1 (Jvm.Cond.code y_3 jdk_42_method_154_code 1 (some .boolean) :: wz) ({ frames := 0, cells := 0, slots := 0, locals := 0 } : Room)) (fun aZ UZ => aZ = #[(.ref a)] ∧ Z.Warmed39 UZ.vm ∧ UZ.heap = h0) (fun _ _ _ _ _ => True) (fun _ UZ oZ UY => ∃ vZ LZ, oZ = .returned vZ ∧ Q_rm_isl Z a cd csz r h0 n0 vZ UY.heap LZ ∧ FrameEnd UZ oZ UY LZ ({ frames := 0, cells := 0, slots := 0, locals := 0 } : Room).cells ({ frames := 0, cells := 0, slots := 0, locals := 0 } : Room).slots) := by
  refine MetFree.of_bodySF (plainFor_of_name pn_12) hisR ?_
  intro p e s m args below meth c s₁ Bd hml0 hP hK
  obtain ⟨rfl, hZ, hh⟩ := hP
  have hx := Bd.exec
  have hby := Bd.bytes
  have hml : c.maxLocals = 1 := hml0
  have hown : s.vm.findClass "java/lang/String" = some m.cls := findClass_of_methodNamed Bd.named
  have hnm := (name_of_methodNamed Bd.named Bd.method).1
  have X0 : Stand p l e ({ frames := 0, cells := 0, slots := 0, locals := 0 } : Room) s m #[(.ref a)] below meth c s₁ [] 0 0 := Stand.of_body Bd
  have e0 : s₁.heap = h0 := by rw [← hh, Bd.state]; rfl
  have N0 := Fr.nil n0
  have Z0 : n0 ≤ h0.size := O0.1 ▸ O0.2.1
  have K0 := Keep.refl h0 []
  show Go p e below (fun oW tW LW => FrameEnd s oW tW LW ({ frames := 0, cells := 0, slots := 0, locals := 0 } : Room).cells ({ frames := 0, cells := 0, slots := 0, locals := 0 } : Room).slots) (Q_rm_isl Z a cd csz r h0 n0) s₁ (entryFrame m #[(.ref a)] 1)
  refine Go.of (fun t kz => castTop (ef_rm_isl m a) kz) ?_
  show Go _ _ _ _ _ s₁ (mkF m 0 #[.val (.ref a)] [])
  refine Go.getS X0 hx hZ hown (host := "") (Or.inl (w37 hw)) Via.refl e0 ((Scs).ext O0.2) (hb hby d12_0) fun T1 X1 e1 => ?_
  refine Go.of (fun _ kz => XS.ifNo X1.here hx rfl (hb hby d12_3) rfl ((if0 _ _).trans (feq hcs).1) kz) ?_
  refine Go.of (fun _ kz => XS.aloadN X1.here hx rfl (hb hby d12_6) rfl rfl kz) ?_
  show Go _ _ _ _ _ T1 (mkF m 7 #[.val (.ref a)] [(.ref a)])
  refine Go.getF X1 hx hZ hown (host := "") (Or.inl (w27 hw)) Via.refl e1 Fc (hb hby d12_7) fun T2 X2 e2 => ?_
  by_cases hc10_3 : cd = (0 : Int32)
  · refine Go.of (fun _ kz => XS.ifNo X2.here hx rfl (hb hby d12_10) rfl ((if0 _ _).trans (teq hc10_3).2) kz) ?_
    refine Go.of (fun _ kz => XS.iconst X2.here hx rfl (hb hby d12_13) (XS.goto X2.here hx rfl (pc0 := 14) (pc' := 18) rfl (hb hby d12_14) (by decide) (by decide) kz)) ?_
    refine Go.ret X2 (v := some (.int (1 : Int32))) (fun h => by rw [Bd.returns] at h; cases h) Bd.notSynchronized (fun fs hr => retN X2 hx (t := .boolean) Bd.returns (by simp) (hb hby d12_18) hr) (by decide) (by decide) ?_
    show Q_rm_isl Z _ _ _ _ h0 n0 _ T2.heap _
    rw [e2]
    exact ⟨by rw [← hr]; simp [hc10_3], N0, rfl⟩
  · refine Go.of (fun _ kz => XS.ifYes X2.here hx rfl (pc0 := 10) (pc' := 17) rfl (hb hby d12_10) rfl ((if0 _ _).trans (feq hc10_3).2) (by decide) (by decide) kz) ?_
    refine Go.of (fun _ kz => XS.iconst X2.here hx rfl (hb hby d12_17) kz) ?_
    refine Go.ret X2 (v := some (.int (0 : Int32))) (fun h => by rw [Bd.returns] at h; cases h) Bd.notSynchronized (fun fs hr => retN X2 hx (t := .boolean) Bd.returns (by simp) (hb hby d12_18) hr) (by decide) (by decide) ?_
    show Q_rm_isl Z _ _ _ _ h0 n0 _ T2.heap _
    rw [e2]
    exact ⟨by rw [← hr]; simp [hc10_3], N0, rfl⟩

theorem d26_0 : decode jdk_42_method_152_code 0 = .ok (.getstatic 38, 3) := by decide +kernel
theorem d26_3 : decode jdk_42_method_152_code 3 = .ok (.ifCond .eq 10, 3) := by decide +kernel
theorem d26_6 : decode jdk_42_method_152_code 6 = .ok (.aload_n 0, 1) := by decide +kernel
theorem d26_7 : decode jdk_42_method_152_code 7 = .ok (.getfield 15, 3) := by decide +kernel
theorem d26_10 : decode jdk_42_method_152_code 10 = .ok (.goto 4, 3) := by decide +kernel
theorem d26_14 : decode jdk_42_method_152_code 14 = .ok (.ireturn, 1) := by decide +kernel
theorem pn_26 : plainName "java/lang/String" = true := by first | (simp [plainName, overriddenIn]; done) | decide +kernel
theorem ef_rm_cod (m : MethodId) (x0 : Addr) : entryFrame m #[(.ref x0)] 1 = mkF m 0 #[.val (.ref x0)] [] := by first | (simp [entryFrame, mkF, argsToLocals, Value.category]; done) | rfl
def Q_rm_cod (Z : State) (a : Addr) (cd : Int32) (csz : Int32) (h0 : Heap) (n0 : Nat) (v : Option Value) (h : Heap) (L : List Loc) : Prop := v = some (.int cd) ∧ Fr n0 L ∧ h = h0
set_option maxRecDepth 65536 in
set_option maxHeartbeats 40000000 in
theorem rm_cod (l : Launch) (Z : State) (a0 : Array Value) (hw : ∀ d ∈ tables_1, d.before a0 Z = true) (wz : List Jvm.Cond) (a : Addr) (cd : Int32) (csz : Int32) (h0 : Heap) (n0 : Nat) (O0 : Old Z n0 h0) (Fc : Fld Z h0 a "java/lang/String" "coder" "B" (.int cd)) (Scs : Sta Z Z.heap "java/lang/String" "COMPACT_STRINGS" "Z" (.int csz)) (hcs : ¬ csz = (0 : Int32)) (hb8 : nar .byte cd = cd) :
    MetFree l y_4 (head1 (Jvm.Cond.code y_4 jdk_42_method_152_code 1 (some .byte) :: wz) ({ frames := 0, cells := 0, slots := 0, locals := 0 } : Room)) (fun aZ UZ => aZ = #[(.ref a)] ∧ Z.Warmed39 UZ.vm ∧ UZ.heap = h0) (fun _ _ _ _ _ => True) (fun _ UZ oZ UY => ∃ vZ LZ, oZ = .returned vZ ∧ Q_rm_cod Z a cd csz h0 n0 vZ UY.heap LZ ∧ FrameEnd UZ oZ UY LZ ({ frames := 0, cells := 0, slots := 0, locals := 0 } : Room).cells ({ frames := 0, cells := 0, slots := 0, locals := 0 } : Room).slots) := by
  refine MetFree.of_bodySF (plainFor_of_name pn_26) hisR ?_
  intro p e s m args below meth c s₁ Bd hml0 hP hK
  obtain ⟨rfl, hZ, hh⟩ := hP
  have hx := Bd.exec
  have hby := Bd.bytes
  have hml : c.maxLocals = 1 := hml0
  have hown : s.vm.findClass "java/lang/String" = some m.cls := findClass_of_methodNamed Bd.named
  have hnm := (name_of_methodNamed Bd.named Bd.method).1
  have X0 : Stand p l e ({ frames := 0, cells := 0, slots := 0, locals := 0 } : Room) s m #[(.ref a)] below meth c s₁ [] 0 0 := Stand.of_body Bd
  have e0 : s₁.heap = h0 := by rw [← hh, Bd.state]; rfl
  have N0 := Fr.nil n0
  have Z0 : n0 ≤ h0.size := O0.1 ▸ O0.2.1
  have K0 := Keep.refl h0 []
  show Go p e below (fun oW tW LW => FrameEnd s oW tW LW ({ frames := 0, cells := 0, slots := 0, locals := 0 } : Room).cells ({ frames := 0, cells := 0, slots := 0, locals := 0 } : Room).slots) (Q_rm_cod Z a cd csz h0 n0) s₁ (entryFrame m #[(.ref a)] 1)
  refine Go.of (fun t kz => castTop (ef_rm_cod m a) kz) ?_
  show Go _ _ _ _ _ s₁ (mkF m 0 #[.val (.ref a)] [])
  refine Go.getS X0 hx hZ hown (host := "") (Or.inl (w37 hw)) Via.refl e0 ((Scs).ext O0.2) (hb hby d26_0) fun T1 X1 e1 => ?_
  refine Go.of (fun _ kz => XS.ifNo X1.here hx rfl (hb hby d26_3) rfl ((if0 _ _).trans (feq hcs).1) kz) ?_
  refine Go.of (fun _ kz => XS.aloadN X1.here hx rfl (hb hby d26_6) rfl rfl kz) ?_
  show Go _ _ _ _ _ T1 (mkF m 7 #[.val (.ref a)] [(.ref a)])
  refine Go.getF X1 hx hZ hown (host := "") (Or.inl (w27 hw)) Via.refl e1 Fc (hb hby d26_7) fun T2 X2 e2 => ?_
  refine Go.of (fun _ kz => XS.goto X2.here hx rfl (pc0 := 10) (pc' := 14) rfl (hb hby d26_10) (by decide) (by decide) kz) ?_
  refine Go.ret X2 (v := some (.int (nar .byte cd))) (fun h => by rw [Bd.returns] at h; cases h) Bd.notSynchronized (fun fs hr => retN X2 hx (t := .byte) Bd.returns (by simp) (hb hby d26_14) hr) (by decide) (by decide) ?_
  show Q_rm_cod Z _ _ _ h0 n0 _ T2.heap _
  rw [e2]
  exact ⟨by rw [hb8], N0, rfl⟩

theorem d25_0 : decode jdk_42_method_54_code 0 = .ok (.aload_n 0, 1) := by decide +kernel
theorem d25_1 : decode jdk_42_method_54_code 1 = .ok (.getfield 9, 3) := by decide +kernel
theorem d25_4 : decode jdk_42_method_54_code 4 = .ok (.arraylength, 1) := by decide +kernel
theorem d25_5 : decode jdk_42_method_54_code 5 = .ok (.aload_n 0, 1) := by decide +kernel
theorem d25_6 : decode jdk_42_method_54_code 6 = .ok (.invokevirtual 335, 3) := by decide +kernel
theorem d25_9 : decode jdk_42_method_54_code 9 = .ok (.ishr, 1) := by decide +kernel
theorem d25_10 : decode jdk_42_method_54_code 10 = .ok (.ireturn, 1) := by decide +kernel
theorem pn_25 : plainName "java/lang/String" = true := by first | (simp [plainName, overriddenIn]; done) | decide +kernel
theorem pd_2 : parseMethodDescriptor "()B" = some ⟨[], some .byte⟩ := by decide +kernel
theorem ef_rm_len (m : MethodId) (x0 : Addr) : entryFrame m #[(.ref x0)] 1 = mkF m 0 #[.val (.ref x0)] [] := by first | (simp [entryFrame, mkF, argsToLocals, Value.category]; done) | rfl
def Q_rm_len (Z : State) (a : Addr) (cd : Int32) (csz : Int32) (b : Addr) (kb : ClassId) (z : Int32) (vs : List Value) (r : Int32) (h0 : Heap) (n0 : Nat) (v : Option Value) (h : Heap) (L : List Loc) : Prop := v = some (.int r) ∧ Fr n0 L ∧ h = h0
set_option maxRecDepth 65536 in
set_option maxHeartbeats 40000000 in
theorem rm_len (l : Launch) (Z : State) (a0 : Array Value) (hw : ∀ d ∈ tables_1, d.before a0 Z = true) (wz : List Jvm.Cond) (a : Addr) (cd : Int32) (csz : Int32) (b : Addr) (kb : ClassId) (z : Int32) (vs : List Value) (r : Int32) (h0 : Heap) (n0 : Nat) (O0 : Old Z n0 h0) (E : Exa Z h0 a "java/lang/String") (Fc : Fld Z h0 a "java/lang/String" "coder" "B" (.int cd)) (Scs : Sta Z Z.heap "java/lang/String" "COMPACT_STRINGS" "Z" (.int csz)) (hcs : ¬ csz = (0 : Int32)) (hb8 : nar .byte cd = cd) (Fv : Fld Z h0 a "java/lang/String" "value" "[B" (.ref b)) (Vb : Arv Z h0 b kb .byte z vs (.int (0 : Int32))) (hr : (z >>> (cd &&& 31)) = r) :
    MetFree l y_5 (head1 (Jvm.Cond.code y_5 jdk_42_method_54_code 1 (some .int) :: wz) ({ frames := 1, cells := 0, slots := 0, locals := 13 } : Room)) (fun aZ UZ => aZ = #[(.ref a)] ∧ Z.Warmed39 UZ.vm ∧ UZ.heap = h0) (fun _ _ _ _ _ => True) (fun _ UZ oZ UY => ∃ vZ LZ, oZ = .returned vZ ∧ Q_rm_len Z a cd csz b kb z vs r h0 n0 vZ UY.heap LZ ∧ FrameEnd UZ oZ UY LZ ({ frames := 1, cells := 0, slots := 0, locals := 13 } : Room).cells ({ frames := 1, cells := 0, slots := 0, locals := 13 } : Room).slots) := by
  refine MetFree.of_bodySF (plainFor_of_name pn_25) hisR ?_
  intro p e s m args below meth c s₁ Bd hml0 hP hK
  obtain ⟨rfl, hZ, hh⟩ := hP
  have hx := Bd.exec
  have hby := Bd.bytes
  have hml : c.maxLocals = 1 := hml0
  have hown : s.vm.findClass "java/lang/String" = some m.cls := findClass_of_methodNamed Bd.named
  have hnm := (name_of_methodNamed Bd.named Bd.method).1
  have X0 : Stand p l e ({ frames := 1, cells := 0, slots := 0, locals := 13 } : Room) s m #[(.ref a)] below meth c s₁ [] 0 0 := Stand.of_body Bd
  have e0 : s₁.heap = h0 := by rw [← hh, Bd.state]; rfl
  have N0 := Fr.nil n0
  have Z0 : n0 ≤ h0.size := O0.1 ▸ O0.2.1
  have K0 := Keep.refl h0 []
  show Go p e below (fun oW tW LW => FrameEnd s oW tW LW ({ frames := 1, cells := 0, slots := 0, locals := 13 } : Room).cells ({ frames := 1, cells := 0, slots := 0, locals := 13 } : Room).slots) (Q_rm_len Z a cd csz b kb z vs r h0 n0) s₁ (entryFrame m #[(.ref a)] 1)
  refine Go.of (fun t kz => castTop (ef_rm_len m a) kz) ?_
  show Go _ _ _ _ _ s₁ (mkF m 0 #[.val (.ref a)] [])
  refine Go.of (fun _ kz => XS.aloadN X0.here hx rfl (hb hby d25_0) rfl rfl kz) ?_
  show Go _ _ _ _ _ s₁ (mkF m 1 #[.val (.ref a)] [(.ref a)])
  refine Go.getF X0 hx hZ hown (host := "") (Or.inl (w26 hw)) Via.refl e0 Fv (hb hby d25_1) fun T1 X1 e1 => ?_
  obtain ⟨cl2a, Ar2a, q2a, S2a, N2a, H2a, G2a⟩ := id Vb
  refine Go.of (fun _ kz => X1.arraylength hx (by rw [e1]; exact Ar2a.1) (State.isArrayOf_alike hZ.alike Ar2a.2.1) (g := (mkF m 4 #[.val (.ref a)] [(.ref b)])) rfl rfl (hb hby d25_4) _ kz) ?_
  rw [(len_of S2a N2a)]
  refine Go.of (fun _ kz => XS.aloadN X1.here hx rfl (hb hby d25_5) rfl rfl kz) ?_
  show Go _ _ _ _ _ T1 (mkF m 6 #[.val (.ref a)] [(.ref a), (.int z)])
  refine Go.callV X1 hx hZ hown (y := y_4) (z := y_4) (w110 hw) (w111 hw) (notFace_of_selects (args := #[]) (mvT hZ (w113 hw))) (w113 hw) (w112 hw) (w4 hw) (w114 hw) (by decide) (a := a) (rm_cod l Z a0 hw [] a cd csz h0 n0 O0 Fc Scs hcs hb8) e1 E 1 (by decide) (by decide) (by rw [hml]; rfl) (argsL := []) (rest := [(.int z)]) (lenOf pd_2 rfl) rfl rfl (Nat.le_of_eq rfl) (hb hby d25_6) (c2 := 0) (s2 := 0) rfl rfl (by decide) (by decide) fun v3 T3 Lc3 L3 X3 l3 hQ3 => ?_
  obtain ⟨rfl, N3q, e3⟩ := hQ3
  have N3 : Fr n0 L3 := by rw [l3]; exact Fr.app N0 N3q
  refine Go.of (fun _ kz => XS.ishr X3.here hx rfl (hb hby d25_9) rfl kz) ?_
  refine Go.ret X3 (v := some (.int (z >>> (cd &&& 31)))) (fun h => by rw [Bd.returns] at h; cases h) Bd.notSynchronized (fun fs hr => own_retI X3 hx Bd.returns (hb hby d25_10) hr) (by decide) (by decide) ?_
  show Q_rm_len Z _ _ _ _ _ _ _ _ h0 n0 _ T3.heap _
  rw [e3]
  exact ⟨by rw [hr], N3, rfl⟩

theorem d6_0 : decode jdk_42_method_55_code 0 = .ok (.aload_n 0, 1) := by decide +kernel
theorem d6_1 : decode jdk_42_method_55_code 1 = .ok (.getfield 9, 3) := by decide +kernel
theorem d6_4 : decode jdk_42_method_55_code 4 = .ok (.arraylength, 1) := by decide +kernel
theorem d6_5 : decode jdk_42_method_55_code 5 = .ok (.ifCond .ne 7, 3) := by decide +kernel
theorem d6_8 : decode jdk_42_method_55_code 8 = .ok (.iconst 1, 1) := by decide +kernel
theorem d6_9 : decode jdk_42_method_55_code 9 = .ok (.goto 4, 3) := by decide +kernel
theorem d6_12 : decode jdk_42_method_55_code 12 = .ok (.iconst 0, 1) := by decide +kernel
theorem d6_13 : decode jdk_42_method_55_code 13 = .ok (.ireturn, 1) := by decide +kernel
theorem pn_6 : plainName "java/lang/String" = true := by first | (simp [plainName, overriddenIn]; done) | decide +kernel
theorem ef_rm_emp (m : MethodId) (x0 : Addr) : entryFrame m #[(.ref x0)] 1 = mkF m 0 #[.val (.ref x0)] [] := by first | (simp [entryFrame, mkF, argsToLocals, Value.category]; done) | rfl
def Q_rm_emp (Z : State) (a : Addr) (b : Addr) (kb : ClassId) (z : Int32) (vs : List Value) (r : Int32) (h0 : Heap) (n0 : Nat) (v : Option Value) (h : Heap) (L : List Loc) : Prop := v = some (.int r) ∧ Fr n0 L ∧ h = h0
set_option maxRecDepth 65536 in
set_option maxHeartbeats 40000000 in
theorem rm_emp (l : Launch) (Z : State) (a0 : Array Value) (hw : ∀ d ∈ tables_1, d.before a0 Z = true) (wz : List Jvm.Cond) (a : Addr) (b : Addr) (kb : ClassId) (z : Int32) (vs : List Value) (r : Int32) (h0 : Heap) (n0 : Nat) (O0 : Old Z n0 h0) (Fv : Fld Z h0 a "java/lang/String" "value" "[B" (.ref b)) (Vb : Arv Z h0 b kb .byte z vs (.int (0 : Int32))) (hr : (if z = (0 : Int32) then (1 : Int32) else 0) = r) :
    MetFree l y_6 (head1 (Jvm.Cond.code y_6 jdk_42_method_55_code 1 (some .boolean) :: wz) ({ frames := 0, cells := 0, slots := 0, locals := 0 } : Room)) (fun aZ UZ => aZ = #[(.ref a)] ∧ Z.Warmed39 UZ.vm ∧ UZ.heap = h0) (fun _ _ _ _ _ => True) (fun _ UZ oZ UY => ∃ vZ LZ, oZ = .returned vZ ∧ Q_rm_emp Z a b kb z vs r h0 n0 vZ UY.heap LZ ∧ FrameEnd UZ oZ UY LZ ({ frames := 0, cells := 0, slots := 0, locals := 0 } : Room).cells ({ frames := 0, cells := 0, slots := 0, locals := 0 } : Room).slots) := by
  refine MetFree.of_bodySF (plainFor_of_name pn_6) hisR ?_
  intro p e s m args below meth c s₁ Bd hml0 hP hK
  obtain ⟨rfl, hZ, hh⟩ := hP
  have hx := Bd.exec
  have hby := Bd.bytes
  have hml : c.maxLocals = 1 := hml0
  have hown : s.vm.findClass "java/lang/String" = some m.cls := findClass_of_methodNamed Bd.named
  have hnm := (name_of_methodNamed Bd.named Bd.method).1
  have X0 : Stand p l e ({ frames := 0, cells := 0, slots := 0, locals := 0 } : Room) s m #[(.ref a)] below meth c s₁ [] 0 0 := Stand.of_body Bd
  have e0 : s₁.heap = h0 := by rw [← hh, Bd.state]; rfl
  have N0 := Fr.nil n0
  have Z0 : n0 ≤ h0.size := O0.1 ▸ O0.2.1
  have K0 := Keep.refl h0 []
  show Go p e below (fun oW tW LW => FrameEnd s oW tW LW ({ frames := 0, cells := 0, slots := 0, locals := 0 } : Room).cells ({ frames := 0, cells := 0, slots := 0, locals := 0 } : Room).slots) (Q_rm_emp Z a b kb z vs r h0 n0) s₁ (entryFrame m #[(.ref a)] 1)
  refine Go.of (fun t kz => castTop (ef_rm_emp m a) kz) ?_
  show Go _ _ _ _ _ s₁ (mkF m 0 #[.val (.ref a)] [])
  refine Go.of (fun _ kz => XS.aloadN X0.here hx rfl (hb hby d6_0) rfl rfl kz) ?_
  show Go _ _ _ _ _ s₁ (mkF m 1 #[.val (.ref a)] [(.ref a)])
  refine Go.getF X0 hx hZ hown (host := "") (Or.inl (w26 hw)) Via.refl e0 Fv (hb hby d6_1) fun T1 X1 e1 => ?_
  obtain ⟨cl2a, Ar2a, q2a, S2a, N2a, H2a, G2a⟩ := id Vb
  refine Go.of (fun _ kz => X1.arraylength hx (by rw [e1]; exact Ar2a.1) (State.isArrayOf_alike hZ.alike Ar2a.2.1) (g := (mkF m 4 #[.val (.ref a)] [(.ref b)])) rfl rfl (hb hby d6_4) _ kz) ?_
  rw [(len_of S2a N2a)]
  by_cases hc5_3 : z = (0 : Int32)
  · refine Go.of (fun _ kz => XS.ifNo X1.here hx rfl (hb hby d6_5) rfl ((if0 _ _).trans (teq hc5_3).2) kz) ?_
    refine Go.of (fun _ kz => XS.iconst X1.here hx rfl (hb hby d6_8) (XS.goto X1.here hx rfl (pc0 := 9) (pc' := 13) rfl (hb hby d6_9) (by decide) (by decide) kz)) ?_
    refine Go.ret X1 (v := some (.int (1 : Int32))) (fun h => by rw [Bd.returns] at h; cases h) Bd.notSynchronized (fun fs hr => retN X1 hx (t := .boolean) Bd.returns (by simp) (hb hby d6_13) hr) (by decide) (by decide) ?_
    show Q_rm_emp Z _ _ _ _ _ _ h0 n0 _ T1.heap _
    rw [e1]
    exact ⟨by rw [← hr]; simp [hc5_3], N0, rfl⟩
  · refine Go.of (fun _ kz => XS.ifYes X1.here hx rfl (pc0 := 5) (pc' := 12) rfl (hb hby d6_5) rfl ((if0 _ _).trans (feq hc5_3).2) (by decide) (by decide) kz) ?_
    refine Go.of (fun _ kz => XS.iconst X1.here hx rfl (hb hby d6_12) kz) ?_
    refine Go.ret X1 (v := some (.int (0 : Int32))) (fun h => by rw [Bd.returns] at h; cases h) Bd.notSynchronized (fun fs hr => retN X1 hx (t := .boolean) Bd.returns (by simp) (hb hby d6_13) hr) (by decide) (by decide) ?_
    show Q_rm_emp Z _ _ _ _ _ _ h0 n0 _ T1.heap _
    rw [e1]
    exact ⟨by rw [← hr]; simp [hc5_3], N0, rfl⟩

theorem d21_0 : decode jdk_52_method_5_code 0 = .ok (.getstatic 44, 3) := by decide +kernel
theorem d21_3 : decode jdk_52_method_5_code 3 = .ok (.ifCond .ne 25, 3) := by decide +kernel
theorem d21_28 : decode jdk_52_method_5_code 28 = .ok (.iload_n 1, 1) := by decide +kernel
theorem d21_29 : decode jdk_52_method_5_code 29 = .ok (.iconst 1, 1) := by decide +kernel
theorem d21_30 : decode jdk_52_method_5_code 30 = .ok (.ishl, 1) := by decide +kernel
theorem d21_31 : decode jdk_52_method_5_code 31 = .ok (.istore_n 1, 1) := by decide +kernel
theorem d21_32 : decode jdk_52_method_5_code 32 = .ok (.aload_n 0, 1) := by decide +kernel
theorem d21_33 : decode jdk_52_method_5_code 33 = .ok (.iload_n 1, 1) := by decide +kernel
theorem d21_34 : decode jdk_52_method_5_code 34 = .ok (.iinc 1 1, 3) := by decide +kernel
theorem d21_37 : decode jdk_52_method_5_code 37 = .ok (.baload, 1) := by decide +kernel
theorem d21_38 : decode jdk_52_method_5_code 38 = .ok (.sipush 255, 3) := by decide +kernel
theorem d21_41 : decode jdk_52_method_5_code 41 = .ok (.iand, 1) := by decide +kernel
theorem d21_42 : decode jdk_52_method_5_code 42 = .ok (.getstatic 59, 3) := by decide +kernel
theorem d21_45 : decode jdk_52_method_5_code 45 = .ok (.ishl, 1) := by decide +kernel
theorem d21_46 : decode jdk_52_method_5_code 46 = .ok (.aload_n 0, 1) := by decide +kernel
theorem d21_47 : decode jdk_52_method_5_code 47 = .ok (.iload_n 1, 1) := by decide +kernel
theorem d21_48 : decode jdk_52_method_5_code 48 = .ok (.baload, 1) := by decide +kernel
theorem d21_49 : decode jdk_52_method_5_code 49 = .ok (.sipush 255, 3) := by decide +kernel
theorem d21_52 : decode jdk_52_method_5_code 52 = .ok (.iand, 1) := by decide +kernel
theorem d21_53 : decode jdk_52_method_5_code 53 = .ok (.getstatic 63, 3) := by decide +kernel
theorem d21_56 : decode jdk_52_method_5_code 56 = .ok (.ishl, 1) := by decide +kernel
theorem d21_57 : decode jdk_52_method_5_code 57 = .ok (.ior, 1) := by decide +kernel
theorem d21_58 : decode jdk_52_method_5_code 58 = .ok (.i2c, 1) := by decide +kernel
theorem d21_59 : decode jdk_52_method_5_code 59 = .ok (.ireturn, 1) := by decide +kernel
theorem pn_21 : plainName "java/lang/StringUTF16" = true := by first | (simp [plainName, overriddenIn]; done) | decide +kernel
theorem ef_rm_get (m : MethodId) (x0 : Addr) (x1 : Int32) : entryFrame m #[(.ref x0), (.int x1)] 2 = mkF m 0 #[.val (.ref x0), .val (.int x1)] [] := by first | (simp [entryFrame, mkF, argsToLocals, Value.category]; done) | rfl
def Q_rm_get (Z : State) (b : Addr) (i : Int32) (kb : ClassId) (z : Int32) (vs : List Value) (x0 : Int32) (x1 : Int32) (r : Int32) (h0 : Heap) (n0 : Nat) (v : Option Value) (h : Heap) (L : List Loc) : Prop := v = some (.int r) ∧ Fr n0 L ∧ h = h0
set_option maxRecDepth 65536 in
set_option maxHeartbeats 40000000 in
theorem rm_get (l : Launch) (Z : State) (a0 : Array Value) (hw : ∀ d ∈ tables_1, d.before a0 Z = true) (wz : List Jvm.Cond) (b : Addr) (i : Int32) (kb : ClassId) (z : Int32) (vs : List Value) (x0 : Int32) (x1 : Int32) (r : Int32) (h0 : Heap) (n0 : Nat) (O0 : Old Z n0 h0) (Vb : Arv Z h0 b kb .byte z vs (.int (0 : Int32))) (Sas : Sta Z Z.heap "java/lang/StringUTF16" "$assertionsDisabled" "Z" (.int (1 : Int32))) (Shi : Sta Z Z.heap "java/lang/StringUTF16" "HI_BYTE_SHIFT" "I" (.int (0 : Int32))) (Slo : Sta Z Z.heap "java/lang/StringUTF16" "LO_BYTE_SHIFT" "I" (.int (8 : Int32))) (hj : ¬ (i <<< ((1 : Int32) &&& 31)) < (0 : Int32) ∧ (i <<< ((1 : Int32) &&& 31)) < z) (hj1 : ¬ ((i <<< ((1 : Int32) &&& 31)) + (1 : Int32)) < (0 : Int32) ∧ ((i <<< ((1 : Int32) &&& 31)) + (1 : Int32)) < z) (hv0 : vs.getD ((i <<< ((1 : Int32) &&& 31))).toNatClampNeg (.int (0 : Int32)) = .int x0) (hv1 : vs.getD (((i <<< ((1 : Int32) &&& 31)) + (1 : Int32))).toNatClampNeg (.int (0 : Int32)) = .int x1) (hr : nar .char ((((x0 &&& (255 : Int32)) <<< ((0 : Int32) &&& 31)) ||| ((x1 &&& (255 : Int32)) <<< ((8 : Int32) &&& 31))).toUInt32.toUInt16.toUInt32.toInt32) = r) :
    MetFree l y_7 (head1 (Jvm.Cond.code y_7 jdk_52_method_5_code 2 (some .char) :: wz) ({ frames := 0, cells := 0, slots := 0, locals := 0 } : Room)) (fun aZ UZ => aZ = #[(.ref b), (.int i)] ∧ Z.Warmed39 UZ.vm ∧ UZ.heap = h0) (fun _ _ _ _ _ => True) (fun _ UZ oZ UY => ∃ vZ LZ, oZ = .returned vZ ∧ Q_rm_get Z b i kb z vs x0 x1 r h0 n0 vZ UY.heap LZ ∧ FrameEnd UZ oZ UY LZ ({ frames := 0, cells := 0, slots := 0, locals := 0 } : Room).cells ({ frames := 0, cells := 0, slots := 0, locals := 0 } : Room).slots) := by
  refine MetFree.of_bodySF (plainFor_of_name pn_21) hisR ?_
  intro p e s m args below meth c s₁ Bd hml0 hP hK
  obtain ⟨rfl, hZ, hh⟩ := hP
  have hx := Bd.exec
  have hby := Bd.bytes
  have hml : c.maxLocals = 2 := hml0
  have hown : s.vm.findClass "java/lang/StringUTF16" = some m.cls := findClass_of_methodNamed Bd.named
  have hnm := (name_of_methodNamed Bd.named Bd.method).1
  have X0 : Stand p l e ({ frames := 0, cells := 0, slots := 0, locals := 0 } : Room) s m #[(.ref b), (.int i)] below meth c s₁ [] 0 0 := Stand.of_body Bd
  have e0 : s₁.heap = h0 := by rw [← hh, Bd.state]; rfl
  have N0 := Fr.nil n0
  have Z0 : n0 ≤ h0.size := O0.1 ▸ O0.2.1
  have K0 := Keep.refl h0 []
  show Go p e below (fun oW tW LW => FrameEnd s oW tW LW ({ frames := 0, cells := 0, slots := 0, locals := 0 } : Room).cells ({ frames := 0, cells := 0, slots := 0, locals := 0 } : Room).slots) (Q_rm_get Z b i kb z vs x0 x1 r h0 n0) s₁ (entryFrame m #[(.ref b), (.int i)] 2)
  refine Go.of (fun t kz => castTop (ef_rm_get m b i) kz) ?_
  show Go _ _ _ _ _ s₁ (mkF m 0 #[.val (.ref b), .val (.int i)] [])
  refine Go.getS X0 hx hZ hown (host := "") (Or.inl (w89 hw)) Via.refl e0 ((Sas).ext O0.2) (hb hby d21_0) fun T1 X1 e1 => ?_
  refine Go.of (fun _ kz => XS.ifYes X1.here hx rfl (pc0 := 3) (pc' := 28) rfl (hb hby d21_3) rfl ((if0 _ _).trans (feq (by decide : ¬ (1 : Int32) = (0 : Int32))).2) (by decide) (by decide) kz) ?_
  refine Go.of (fun _ kz => XS.iloadN X1.here hx rfl (hb hby d21_28) rfl (XS.iconst X1.here hx rfl (hb hby d21_29) (XS.ishl X1.here hx rfl (hb hby d21_30) rfl (XS.istoreN X1.here hx rfl (hb hby d21_31) rfl (l' := #[.val (.ref b), .val (.int (i <<< ((1 : Int32) &&& 31)))]) rfl (XS.aloadN X1.here hx rfl (hb hby d21_32) rfl rfl (XS.iloadN X1.here hx rfl (hb hby d21_33) rfl (XS.iinc X1.here hx rfl (hb hby d21_34) rfl (l' := #[.val (.ref b), .val (.int ((i <<< ((1 : Int32) &&& 31)) + (1 : Int32)))]) rfl kz))))))) ?_
  show Go _ _ _ _ _ T1 (mkF m 37 #[.val (.ref b), .val (.int ((i <<< ((1 : Int32) &&& 31)) + (1 : Int32)))] [(.int (i <<< ((1 : Int32) &&& 31))), (.ref b)])
  obtain ⟨cl2a, Ar2a, q2a, S2a, N2a, H2a, G2a⟩ := id Vb
  have hin2 := inb_of S2a (j := (i <<< ((1 : Int32) &&& 31))) hj
  refine Go.of (fun _ kz => X1.baloadBytes hx (j := (i <<< ((1 : Int32) &&& 31))) (v := (.int x0)) (by rw [e1]; exact Ar2a.1) (State.isArrayOf_alike hZ.alike Ar2a.2.1) Ar2a.2.2 hin2 (H2a.at hin2 hv0) (g := (mkF m 37 #[.val (.ref b), .val (.int ((i <<< ((1 : Int32) &&& 31)) + (1 : Int32)))] [(.int (i <<< ((1 : Int32) &&& 31))), (.ref b)])) rfl rfl (hb hby d21_37) _ kz) ?_
  refine Go.of (fun _ kz => XS.sipush X1.here hx rfl (hb hby d21_38) (XS.iand X1.here hx rfl (hb hby d21_41) rfl kz)) ?_
  show Go _ _ _ _ _ T1 (mkF m 42 #[.val (.ref b), .val (.int ((i <<< ((1 : Int32) &&& 31)) + (1 : Int32)))] [(.int (x0 &&& (255 : Int32)))])
  refine Go.getS X1 hx hZ hown (host := "") (Or.inl (w90 hw)) Via.refl e1 ((Shi).ext O0.2) (hb hby d21_42) fun T3 X3 e3 => ?_
  refine Go.of (fun _ kz => XS.ishl X3.here hx rfl (hb hby d21_45) rfl (XS.aloadN X3.here hx rfl (hb hby d21_46) rfl rfl (XS.iloadN X3.here hx rfl (hb hby d21_47) rfl kz))) ?_
  obtain ⟨cl4a, Ar4a, q4a, S4a, N4a, H4a, G4a⟩ := id Vb
  have hin4 := inb_of S4a (j := ((i <<< ((1 : Int32) &&& 31)) + (1 : Int32))) hj1
  refine Go.of (fun _ kz => X3.baloadBytes hx (j := ((i <<< ((1 : Int32) &&& 31)) + (1 : Int32))) (v := (.int x1)) (by rw [e3]; exact Ar4a.1) (State.isArrayOf_alike hZ.alike Ar4a.2.1) Ar4a.2.2 hin4 (H4a.at hin4 hv1) (g := (mkF m 48 #[.val (.ref b), .val (.int ((i <<< ((1 : Int32) &&& 31)) + (1 : Int32)))] [(.int ((i <<< ((1 : Int32) &&& 31)) + (1 : Int32))), (.ref b), (.int ((x0 &&& (255 : Int32)) <<< ((0 : Int32) &&& 31)))])) rfl rfl (hb hby d21_48) _ kz) ?_
  refine Go.of (fun _ kz => XS.sipush X3.here hx rfl (hb hby d21_49) (XS.iand X3.here hx rfl (hb hby d21_52) rfl kz)) ?_
  show Go _ _ _ _ _ T3 (mkF m 53 #[.val (.ref b), .val (.int ((i <<< ((1 : Int32) &&& 31)) + (1 : Int32)))] [(.int (x1 &&& (255 : Int32))), (.int ((x0 &&& (255 : Int32)) <<< ((0 : Int32) &&& 31)))])
  refine Go.getS X3 hx hZ hown (host := "") (Or.inl (w91 hw)) Via.refl e3 ((Slo).ext O0.2) (hb hby d21_53) fun T5 X5 e5 => ?_
  refine Go.of (fun _ kz => XS.ishl X5.here hx rfl (hb hby d21_56) rfl (XS.ior X5.here hx rfl (hb hby d21_57) rfl (XS.i2c X5.here hx rfl (hb hby d21_58) rfl kz))) ?_
  refine Go.ret X5 (v := some (.int (nar .char ((((x0 &&& (255 : Int32)) <<< ((0 : Int32) &&& 31)) ||| ((x1 &&& (255 : Int32)) <<< ((8 : Int32) &&& 31))).toUInt32.toUInt16.toUInt32.toInt32)))) (fun h => by rw [Bd.returns] at h; cases h) Bd.notSynchronized (fun fs hr => retN X5 hx (t := .char) Bd.returns (by simp) (hb hby d21_59) hr) (by decide) (by decide) ?_
  show Q_rm_get Z _ _ _ _ _ _ _ _ h0 n0 _ T5.heap _
  rw [e5]
  exact ⟨by rw [← hr], N0, rfl⟩

theorem d24_0 : decode jdk_52_method_6_code 0 = .ok (.aload_n 0, 1) := by decide +kernel
theorem d24_1 : decode jdk_52_method_6_code 1 = .ok (.arraylength, 1) := by decide +kernel
theorem d24_2 : decode jdk_52_method_6_code 2 = .ok (.iconst 1, 1) := by decide +kernel
theorem d24_3 : decode jdk_52_method_6_code 3 = .ok (.ishr, 1) := by decide +kernel
theorem d24_4 : decode jdk_52_method_6_code 4 = .ok (.ireturn, 1) := by decide +kernel
theorem pn_24 : plainName "java/lang/StringUTF16" = true := by first | (simp [plainName, overriddenIn]; done) | decide +kernel
theorem ef_rm_ulen (m : MethodId) (x0 : Addr) : entryFrame m #[(.ref x0)] 1 = mkF m 0 #[.val (.ref x0)] [] := by first | (simp [entryFrame, mkF, argsToLocals, Value.category]; done) | rfl
def Q_rm_ulen (Z : State) (b : Addr) (kb : ClassId) (z : Int32) (vs : List Value) (h0 : Heap) (n0 : Nat) (v : Option Value) (h : Heap) (L : List Loc) : Prop := v = some (.int (z >>> ((1 : Int32) &&& 31))) ∧ Fr n0 L ∧ h = h0
set_option maxRecDepth 65536 in
set_option maxHeartbeats 40000000 in
theorem rm_ulen (l : Launch) (Z : State) (a0 : Array Value) (hw : ∀ d ∈ tables_1, d.before a0 Z = true) (wz : List Jvm.Cond) (b : Addr) (kb : ClassId) (z : Int32) (vs : List Value) (h0 : Heap) (n0 : Nat) (O0 : Old Z n0 h0) (Vb : Arv Z h0 b kb .byte z vs (.int (0 : Int32))) :
    MetFree l y_8 (head1 (Jvm.Cond.code y_8 jdk_52_method_6_code 1 (some .int) :: wz) ({ frames := 0, cells := 0, slots := 0, locals := 0 } : Room)) (fun aZ UZ => aZ = #[(.ref b)] ∧ Z.Warmed39 UZ.vm ∧ UZ.heap = h0) (fun _ _ _ _ _ => True) (fun _ UZ oZ UY => ∃ vZ LZ, oZ = .returned vZ ∧ Q_rm_ulen Z b kb z vs h0 n0 vZ UY.heap LZ ∧ FrameEnd UZ oZ UY LZ ({ frames := 0, cells := 0, slots := 0, locals := 0 } : Room).cells ({ frames := 0, cells := 0, slots := 0, locals := 0 } : Room).slots) := by
  refine MetFree.of_bodySF (plainFor_of_name pn_24) hisR ?_
  intro p e s m args below meth c s₁ Bd hml0 hP hK
  obtain ⟨rfl, hZ, hh⟩ := hP
  have hx := Bd.exec
  have hby := Bd.bytes
  have hml : c.maxLocals = 1 := hml0
  have hown : s.vm.findClass "java/lang/StringUTF16" = some m.cls := findClass_of_methodNamed Bd.named
  have hnm := (name_of_methodNamed Bd.named Bd.method).1
  have X0 : Stand p l e ({ frames := 0, cells := 0, slots := 0, locals := 0 } : Room) s m #[(.ref b)] below meth c s₁ [] 0 0 := Stand.of_body Bd
  have e0 : s₁.heap = h0 := by rw [← hh, Bd.state]; rfl
  have N0 := Fr.nil n0
  have Z0 : n0 ≤ h0.size := O0.1 ▸ O0.2.1
  have K0 := Keep.refl h0 []
  show Go p e below (fun oW tW LW => FrameEnd s oW tW LW ({ frames := 0, cells := 0, slots := 0, locals := 0 } : Room).cells ({ frames := 0, cells := 0, slots := 0, locals := 0 } : Room).slots) (Q_rm_ulen Z b kb z vs h0 n0) s₁ (entryFrame m #[(.ref b)] 1)
  refine Go.of (fun t kz => castTop (ef_rm_ulen m b) kz) ?_
  show Go _ _ _ _ _ s₁ (mkF m 0 #[.val (.ref b)] [])
  refine Go.of (fun _ kz => XS.aloadN X0.here hx rfl (hb hby d24_0) rfl rfl kz) ?_
  obtain ⟨cl1a, Ar1a, q1a, S1a, N1a, H1a, G1a⟩ := id Vb
  refine Go.of (fun _ kz => X0.arraylength hx (by rw [e0]; exact Ar1a.1) (State.isArrayOf_alike hZ.alike Ar1a.2.1) (g := (mkF m 1 #[.val (.ref b)] [(.ref b)])) rfl rfl (hb hby d24_1) _ kz) ?_
  rw [(len_of S1a N1a)]
  refine Go.of (fun _ kz => XS.iconst X0.here hx rfl (hb hby d24_2) (XS.ishr X0.here hx rfl (hb hby d24_3) rfl kz)) ?_
  refine Go.ret X0 (v := some (.int (z >>> ((1 : Int32) &&& 31)))) (fun h => by rw [Bd.returns] at h; cases h) Bd.notSynchronized (fun fs hr => own_retI X0 hx Bd.returns (hb hby d24_4) hr) (by decide) (by decide) ?_
  show Q_rm_ulen Z _ _ _ _ h0 n0 _ s₁.heap _
  rw [e0]
  exact ⟨rfl, N0, rfl⟩

theorem d23_0 : decode jdk_52_method_91_code 0 = .ok (.iload_n 0, 1) := by decide +kernel
theorem d23_1 : decode jdk_52_method_91_code 1 = .ok (.aload_n 1, 1) := by decide +kernel
theorem d23_2 : decode jdk_52_method_91_code 2 = .ok (.invokestatic 48, 3) := by decide +kernel
theorem d23_5 : decode jdk_52_method_91_code 5 = .ok (.invokestatic 414, 3) := by decide +kernel
theorem d23_8 : decode jdk_52_method_91_code 8 = .ok (.return_, 1) := by decide +kernel
theorem pn_23 : plainName "java/lang/StringUTF16" = true := by first | (simp [plainName, overriddenIn]; done) | decide +kernel
theorem pd_3 : parseMethodDescriptor "([B)I" = some ⟨[(.array .byte)], some .int⟩ := by decide +kernel
theorem ef_rm_uci (m : MethodId) (x0 : Int32) (x1 : Addr) : entryFrame m #[(.int x0), (.ref x1)] 2 = mkF m 0 #[.val (.int x0), .val (.ref x1)] [] := by first | (simp [entryFrame, mkF, argsToLocals, Value.category]; done) | rfl
def Q_rm_uci (Z : State) (b : Addr) (i : Int32) (kb : ClassId) (z : Int32) (vs : List Value) (vf : Value) (h0 : Heap) (n0 : Nat) (v : Option Value) (h : Heap) (L : List Loc) : Prop := v = none ∧ Fr n0 L ∧ h = h0
set_option maxRecDepth 65536 in
set_option maxHeartbeats 40000000 in
theorem rm_uci (l : Launch) (Z : State) (a0 : Array Value) (hw : ∀ d ∈ tables_1, d.before a0 Z = true) (wz : List Jvm.Cond) (b : Addr) (i : Int32) (kb : ClassId) (z : Int32) (vs : List Value) (vf : Value) (h0 : Heap) (n0 : Nat) (O0 : Old Z n0 h0) (Vb : Arv Z h0 b kb .byte z vs (.int (0 : Int32))) (Sf : Sta Z Z.heap "jdk/internal/util/Preconditions" "SIOOBE_FORMATTER" "Ljava/util/function/BiFunction;" vf) (hvf : vf.isRef = true) (hi : ¬ i < (0 : Int32) ∧ i < (z >>> ((1 : Int32) &&& 31))) :
    MetFree l y_9 (head1 (Jvm.Cond.code y_9 jdk_52_method_91_code 2 none :: wz) ({ frames := 2, cells := 0, slots := 0, locals := 27 } : Room)) (fun aZ UZ => aZ = #[(.int i), (.ref b)] ∧ Z.Warmed39 UZ.vm ∧ UZ.heap = h0) (fun _ _ _ _ _ => True) (fun _ UZ oZ UY => ∃ vZ LZ, oZ = .returned vZ ∧ Q_rm_uci Z b i kb z vs vf h0 n0 vZ UY.heap LZ ∧ FrameEnd UZ oZ UY LZ ({ frames := 2, cells := 0, slots := 0, locals := 27 } : Room).cells ({ frames := 2, cells := 0, slots := 0, locals := 27 } : Room).slots) := by
  refine MetFree.of_bodySF (plainFor_of_name pn_23) hisR ?_
  intro p e s m args below meth c s₁ Bd hml0 hP hK
  obtain ⟨rfl, hZ, hh⟩ := hP
  have hx := Bd.exec
  have hby := Bd.bytes
  have hml : c.maxLocals = 2 := hml0
  have hown : s.vm.findClass "java/lang/StringUTF16" = some m.cls := findClass_of_methodNamed Bd.named
  have hnm := (name_of_methodNamed Bd.named Bd.method).1
  have X0 : Stand p l e ({ frames := 2, cells := 0, slots := 0, locals := 27 } : Room) s m #[(.int i), (.ref b)] below meth c s₁ [] 0 0 := Stand.of_body Bd
  have e0 : s₁.heap = h0 := by rw [← hh, Bd.state]; rfl
  have N0 := Fr.nil n0
  have Z0 : n0 ≤ h0.size := O0.1 ▸ O0.2.1
  have K0 := Keep.refl h0 []
  show Go p e below (fun oW tW LW => FrameEnd s oW tW LW ({ frames := 2, cells := 0, slots := 0, locals := 27 } : Room).cells ({ frames := 2, cells := 0, slots := 0, locals := 27 } : Room).slots) (Q_rm_uci Z b i kb z vs vf h0 n0) s₁ (entryFrame m #[(.int i), (.ref b)] 2)
  refine Go.of (fun t kz => castTop (ef_rm_uci m i b) kz) ?_
  show Go _ _ _ _ _ s₁ (mkF m 0 #[.val (.int i), .val (.ref b)] [])
  refine Go.of (fun _ kz => XS.iloadN X0.here hx rfl (hb hby d23_0) rfl (XS.aloadN X0.here hx rfl (hb hby d23_1) rfl rfl kz)) ?_
  show Go _ _ _ _ _ s₁ (mkF m 2 #[.val (.int i), .val (.ref b)] [(.ref b), (.int i)])
  refine Go.callS X0 hx hZ hown (y := y_8) (w101 hw) (w102 hw) (w40 hw) (w103 hw) (by decide) (rm_ulen l Z a0 hw [] b kb z vs h0 n0 O0 Vb) e0 1 (by decide) (by decide) (by rw [hml]; rfl) (argsL := [(.ref b)]) (rest := [(.int i)]) (lenOf pd_3 rfl) rfl rfl (Nat.le_of_eq rfl) (hb hby d23_2) (c2 := 0) (s2 := 0) rfl rfl (by decide) (by decide) fun v1 T1 Lc1 L1 X1 l1 hQ1 => ?_
  obtain ⟨rfl, N1q, e1⟩ := hQ1
  have N1 : Fr n0 L1 := by rw [l1]; exact Fr.app N0 N1q
  show Go _ _ _ _ _ T1 (mkF m 5 #[.val (.int i), .val (.ref b)] [(.int (z >>> ((1 : Int32) &&& 31))), (.int i)])
  refine Go.callS X1 hx hZ hown (y := y_1) (w104 hw) (w66 hw) (w4 hw) (w67 hw) (by decide) (rm_sci l Z a0 hw [] i (z >>> ((1 : Int32) &&& 31)) vf h0 n0 O0 Sf hvf hi.1 hi.2) e1 0 (by decide) (by decide) (by rw [hml]; rfl) (argsL := [(.int i), (.int (z >>> ((1 : Int32) &&& 31)))]) (rest := []) (lenOf pd_1 rfl) rfl rfl (Nat.le_of_eq rfl) (hb hby d23_5) (c2 := 0) (s2 := 0) rfl rfl (by decide) (by decide) fun v2 T2 Lc2 L2 X2 l2 hQ2 => ?_
  obtain ⟨rfl, N2q, e2⟩ := hQ2
  have N2 : Fr n0 L2 := by rw [l2]; exact Fr.app N1 N2q
  refine Go.ret X2 (v := none) (fun _ => rfl) Bd.notSynchronized (fun fs hr => X2.returnOut hx Bd.returns (hb hby d23_8) hr) (by decide) (by decide) ?_
  show Q_rm_uci Z _ _ _ _ _ _ h0 n0 _ T2.heap _
  rw [e2]
  exact ⟨rfl, N2, rfl⟩

theorem d22_0 : decode jdk_52_method_83_code 0 = .ok (.iload_n 1, 1) := by decide +kernel
theorem d22_1 : decode jdk_52_method_83_code 1 = .ok (.aload_n 0, 1) := by decide +kernel
theorem d22_2 : decode jdk_52_method_83_code 2 = .ok (.invokestatic 67, 3) := by decide +kernel
theorem d22_5 : decode jdk_52_method_83_code 5 = .ok (.aload_n 0, 1) := by decide +kernel
theorem d22_6 : decode jdk_52_method_83_code 6 = .ok (.iload_n 1, 1) := by decide +kernel
theorem d22_7 : decode jdk_52_method_83_code 7 = .ok (.invokestatic 71, 3) := by decide +kernel
theorem d22_10 : decode jdk_52_method_83_code 10 = .ok (.ireturn, 1) := by decide +kernel
theorem pn_22 : plainName "java/lang/StringUTF16" = true := by first | (simp [plainName, overriddenIn]; done) | decide +kernel
theorem pd_4 : parseMethodDescriptor "(I[B)V" = some ⟨[.int, (.array .byte)], none⟩ := by decide +kernel
theorem pd_5 : parseMethodDescriptor "([BI)C" = some ⟨[(.array .byte), .int], some .char⟩ := by decide +kernel
theorem ef_rm_uch (m : MethodId) (x0 : Addr) (x1 : Int32) : entryFrame m #[(.ref x0), (.int x1)] 2 = mkF m 0 #[.val (.ref x0), .val (.int x1)] [] := by first | (simp [entryFrame, mkF, argsToLocals, Value.category]; done) | rfl
def Q_rm_uch (Z : State) (b : Addr) (i : Int32) (kb : ClassId) (z : Int32) (vs : List Value) (x0 : Int32) (x1 : Int32) (r : Int32) (vf : Value) (h0 : Heap) (n0 : Nat) (v : Option Value) (h : Heap) (L : List Loc) : Prop := v = some (.int r) ∧ Fr n0 L ∧ h = h0
set_option maxRecDepth 65536 in
set_option maxHeartbeats 40000000 in
theorem rm_uch (l : Launch) (Z : State) (a0 : Array Value) (hw : ∀ d ∈ tables_1, d.before a0 Z = true) (wz : List Jvm.Cond) (b : Addr) (i : Int32) (kb : ClassId) (z : Int32) (vs : List Value) (x0 : Int32) (x1 : Int32) (r : Int32) (vf : Value) (h0 : Heap) (n0 : Nat) (O0 : Old Z n0 h0) (Vb : Arv Z h0 b kb .byte z vs (.int (0 : Int32))) (Sf : Sta Z Z.heap "jdk/internal/util/Preconditions" "SIOOBE_FORMATTER" "Ljava/util/function/BiFunction;" vf) (hvf : vf.isRef = true) (Sas : Sta Z Z.heap "java/lang/StringUTF16" "$assertionsDisabled" "Z" (.int (1 : Int32))) (Shi : Sta Z Z.heap "java/lang/StringUTF16" "HI_BYTE_SHIFT" "I" (.int (0 : Int32))) (Slo : Sta Z Z.heap "java/lang/StringUTF16" "LO_BYTE_SHIFT" "I" (.int (8 : Int32))) (hi : ¬ i < (0 : Int32) ∧ i < (z >>> ((1 : Int32) &&& 31))) (hj : ¬ (i <<< ((1 : Int32) &&& 31)) < (0 : Int32) ∧ (i <<< ((1 : Int32) &&& 31)) < z) (hj1 : ¬ ((i <<< ((1 : Int32) &&& 31)) + (1 : Int32)) < (0 : Int32) ∧ ((i <<< ((1 : Int32) &&& 31)) + (1 : Int32)) < z) (hv0 : vs.getD ((i <<< ((1 : Int32) &&& 31))).toNatClampNeg (.int (0 : Int32)) = .int x0) (hv1 : vs.getD (((i <<< ((1 : Int32) &&& 31)) + (1 : Int32))).toNatClampNeg (.int (0 : Int32)) = .int x1) (hr : nar .char ((((x0 &&& (255 : Int32)) <<< ((0 : Int32) &&& 31)) ||| ((x1 &&& (255 : Int32)) <<< ((8 : Int32) &&& 31))).toUInt32.toUInt16.toUInt32.toInt32) = r) (hb16 : nar .char r = r) :
    MetFree l y_10 (head1 (Jvm.Cond.code y_10 jdk_52_method_83_code 2 (some .char) :: wz) ({ frames := 3, cells := 0, slots := 0, locals := 40 } : Room)) (fun aZ UZ => aZ = #[(.ref b), (.int i)] ∧ Z.Warmed39 UZ.vm ∧ UZ.heap = h0) (fun _ _ _ _ _ => True) (fun _ UZ oZ UY => ∃ vZ LZ, oZ = .returned vZ ∧ Q_rm_uch Z b i kb z vs x0 x1 r vf h0 n0 vZ UY.heap LZ ∧ FrameEnd UZ oZ UY LZ ({ frames := 3, cells := 0, slots := 0, locals := 40 } : Room).cells ({ frames := 3, cells := 0, slots := 0, locals := 40 } : Room).slots) := by
  refine MetFree.of_bodySF (plainFor_of_name pn_22) hisR ?_
  intro p e s m args below meth c s₁ Bd hml0 hP hK
  obtain ⟨rfl, hZ, hh⟩ := hP
  have hx := Bd.exec
  have hby := Bd.bytes
  have hml : c.maxLocals = 2 := hml0
  have hown : s.vm.findClass "java/lang/StringUTF16" = some m.cls := findClass_of_methodNamed Bd.named
  have hnm := (name_of_methodNamed Bd.named Bd.method).1
  have X0 : Stand p l e ({ frames := 3, cells := 0, slots := 0, locals := 40 } : Room) s m #[(.ref b), (.int i)] below meth c s₁ [] 0 0 := Stand.of_body Bd
  have e0 : s₁.heap = h0 := by rw [← hh, Bd.state]; rfl
  have N0 := Fr.nil n0
  have Z0 : n0 ≤ h0.size := O0.1 ▸ O0.2.1
  have K0 := Keep.refl h0 []
  show Go p e below (fun oW tW LW => FrameEnd s oW tW LW ({ frames := 3, cells := 0, slots := 0, locals := 40 } : Room).cells ({ frames := 3, cells := 0, slots := 0, locals := 40 } : Room).slots) (Q_rm_uch Z b i kb z vs x0 x1 r vf h0 n0) s₁ (entryFrame m #[(.ref b), (.int i)] 2)
  refine Go.of (fun t kz => castTop (ef_rm_uch m b i) kz) ?_
  show Go _ _ _ _ _ s₁ (mkF m 0 #[.val (.ref b), .val (.int i)] [])
  refine Go.of (fun _ kz => XS.iloadN X0.here hx rfl (hb hby d22_0) rfl (XS.aloadN X0.here hx rfl (hb hby d22_1) rfl rfl kz)) ?_
  show Go _ _ _ _ _ s₁ (mkF m 2 #[.val (.ref b), .val (.int i)] [(.ref b), (.int i)])
  refine Go.callS X0 hx hZ hown (y := y_9) (w98 hw) (w99 hw) (w40 hw) (w100 hw) (by decide) (rm_uci l Z a0 hw [] b i kb z vs vf h0 n0 O0 Vb Sf hvf hi) e0 0 (by decide) (by decide) (by rw [hml]; rfl) (argsL := [(.int i), (.ref b)]) (rest := []) (lenOf pd_4 rfl) rfl rfl (Nat.le_of_eq rfl) (hb hby d22_2) (c2 := 0) (s2 := 0) rfl rfl (by decide) (by decide) fun v1 T1 Lc1 L1 X1 l1 hQ1 => ?_
  obtain ⟨rfl, N1q, e1⟩ := hQ1
  have N1 : Fr n0 L1 := by rw [l1]; exact Fr.app N0 N1q
  refine Go.of (fun _ kz => XS.aloadN X1.here hx rfl (hb hby d22_5) rfl rfl (XS.iloadN X1.here hx rfl (hb hby d22_6) rfl kz)) ?_
  show Go _ _ _ _ _ T1 (mkF m 7 #[.val (.ref b), .val (.int i)] [(.int i), (.ref b)])
  refine Go.callS X1 hx hZ hown (y := y_7) (w92 hw) (w93 hw) (w40 hw) (w94 hw) (by decide) (rm_get l Z a0 hw [] b i kb z vs x0 x1 r h0 n0 O0 Vb Sas Shi Slo hj hj1 hv0 hv1 hr) e1 0 (by decide) (by decide) (by rw [hml]; rfl) (argsL := [(.ref b), (.int i)]) (rest := []) (lenOf pd_5 rfl) rfl rfl (Nat.le_of_eq rfl) (hb hby d22_7) (c2 := 0) (s2 := 0) rfl rfl (by decide) (by decide) fun v2 T2 Lc2 L2 X2 l2 hQ2 => ?_
  obtain ⟨rfl, N2q, e2⟩ := hQ2
  have N2 : Fr n0 L2 := by rw [l2]; exact Fr.app N1 N2q
  refine Go.ret X2 (v := some (.int (nar .char r))) (fun h => by rw [Bd.returns] at h; cases h) Bd.notSynchronized (fun fs hr => retN X2 hx (t := .char) Bd.returns (by simp) (hb hby d22_10) hr) (by decide) (by decide) ?_
  show Q_rm_uch Z _ _ _ _ _ _ _ _ _ h0 n0 _ T2.heap _
  rw [e2]
  exact ⟨by rw [hb16], N2, rfl⟩

theorem d11_0 : decode jdk_42_method_56_code 0 = .ok (.aload_n 0, 1) := by decide +kernel
theorem d11_1 : decode jdk_42_method_56_code 1 = .ok (.invokevirtual 492, 3) := by decide +kernel
theorem d11_4 : decode jdk_42_method_56_code 4 = .ok (.ifCond .eq 12, 3) := by decide +kernel
theorem d11_7 : decode jdk_42_method_56_code 7 = .ok (.aload_n 0, 1) := by decide +kernel
theorem d11_8 : decode jdk_42_method_56_code 8 = .ok (.getfield 9, 3) := by decide +kernel
theorem d11_11 : decode jdk_42_method_56_code 11 = .ok (.iload_n 1, 1) := by decide +kernel
theorem d11_12 : decode jdk_42_method_56_code 12 = .ok (.invokestatic 495, 3) := by decide +kernel
theorem d11_15 : decode jdk_42_method_56_code 15 = .ok (.ireturn, 1) := by decide +kernel
theorem d11_16 : decode jdk_42_method_56_code 16 = .ok (.aload_n 0, 1) := by decide +kernel
theorem d11_17 : decode jdk_42_method_56_code 17 = .ok (.getfield 9, 3) := by decide +kernel
theorem d11_20 : decode jdk_42_method_56_code 20 = .ok (.iload_n 1, 1) := by decide +kernel
theorem d11_21 : decode jdk_42_method_56_code 21 = .ok (.invokestatic 498, 3) := by decide +kernel
theorem d11_24 : decode jdk_42_method_56_code 24 = .ok (.ireturn, 1) := by decide +kernel
theorem pn_11 : plainName "java/lang/String" = true := by first | (simp [plainName, overriddenIn]; done) | decide +kernel
theorem pd_6 : parseMethodDescriptor "()Z" = some ⟨[], some .boolean⟩ := by decide +kernel
theorem ef_rm_ch (m : MethodId) (x0 : Addr) (x1 : Int32) : entryFrame m #[(.ref x0), (.int x1)] 2 = mkF m 0 #[.val (.ref x0), .val (.int x1)] [] := by first | (simp [entryFrame, mkF, argsToLocals, Value.category]; done) | rfl
def Q_rm_ch (Z : State) (a : Addr) (i : Int32) (cd : Int32) (b : Addr) (kb : ClassId) (z : Int32) (vs : List Value) (r : Int32) (csz : Int32) (vf : Value) (h0 : Heap) (n0 : Nat) (v : Option Value) (h : Heap) (L : List Loc) : Prop := v = some (.int r) ∧ Fr n0 L ∧ h = h0
set_option maxRecDepth 65536 in
set_option maxHeartbeats 40000000 in
theorem rm_ch (l : Launch) (Z : State) (a0 : Array Value) (hw : ∀ d ∈ tables_1, d.before a0 Z = true) (wz : List Jvm.Cond) (a : Addr) (i : Int32) (cd : Int32) (b : Addr) (kb : ClassId) (z : Int32) (vs : List Value) (r : Int32) (csz : Int32) (vf : Value) (h0 : Heap) (n0 : Nat) (O0 : Old Z n0 h0) (E : Exa Z h0 a "java/lang/String") (Fc : Fld Z h0 a "java/lang/String" "coder" "B" (.int cd)) (Fv : Fld Z h0 a "java/lang/String" "value" "[B" (.ref b)) (Vb : Arv Z h0 b kb .byte z vs (.int (0 : Int32))) (Scs : Sta Z Z.heap "java/lang/String" "COMPACT_STRINGS" "Z" (.int csz)) (hcs : ¬ csz = (0 : Int32)) (Sf : Sta Z Z.heap "jdk/internal/util/Preconditions" "SIOOBE_FORMATTER" "Ljava/util/function/BiFunction;" vf) (hvf : vf.isRef = true) (Sas : Sta Z Z.heap "java/lang/StringUTF16" "$assertionsDisabled" "Z" (.int (1 : Int32))) (Shi : Sta Z Z.heap "java/lang/StringUTF16" "HI_BYTE_SHIFT" "I" (.int (0 : Int32))) (Slo : Sta Z Z.heap "java/lang/StringUTF16" "LO_BYTE_SHIFT" "I" (.int (8 : Int32))) (hb16 : nar .char r = r) (hP : (cd = (0 : Int32) ∧ own_LP vs i z r) ∨ (cd = (1 : Int32) ∧ own_UP vs i z r)) :
    MetFree l y_11 (head1 (Jvm.Cond.code y_11 jdk_42_method_56_code 2 (some .char) :: wz) ({ frames := 4, cells := 0, slots := 0, locals := 53 } : Room)) (fun aZ UZ => aZ = #[(.ref a), (.int i)] ∧ Z.Warmed39 UZ.vm ∧ UZ.heap = h0) (fun _ _ _ _ _ => True) (fun _ UZ oZ UY => ∃ vZ LZ, oZ = .returned vZ ∧ Q_rm_ch Z a i cd b kb z vs r csz vf h0 n0 vZ UY.heap LZ ∧ FrameEnd UZ oZ UY LZ ({ frames := 4, cells := 0, slots := 0, locals := 53 } : Room).cells ({ frames := 4, cells := 0, slots := 0, locals := 53 } : Room).slots) := by
  refine MetFree.of_bodySF (plainFor_of_name pn_11) hisR ?_
  intro p e s m args below meth c s₁ Bd hml0 hP hK
  obtain ⟨rfl, hZ, hh⟩ := hP
  have hx := Bd.exec
  have hby := Bd.bytes
  have hml : c.maxLocals = 2 := hml0
  have hown : s.vm.findClass "java/lang/String" = some m.cls := findClass_of_methodNamed Bd.named
  have hnm := (name_of_methodNamed Bd.named Bd.method).1
  have X0 : Stand p l e ({ frames := 4, cells := 0, slots := 0, locals := 53 } : Room) s m #[(.ref a), (.int i)] below meth c s₁ [] 0 0 := Stand.of_body Bd
  have e0 : s₁.heap = h0 := by rw [← hh, Bd.state]; rfl
  have N0 := Fr.nil n0
  have Z0 : n0 ≤ h0.size := O0.1 ▸ O0.2.1
  have K0 := Keep.refl h0 []
  show Go p e below (fun oW tW LW => FrameEnd s oW tW LW ({ frames := 4, cells := 0, slots := 0, locals := 53 } : Room).cells ({ frames := 4, cells := 0, slots := 0, locals := 53 } : Room).slots) (Q_rm_ch Z a i cd b kb z vs r csz vf h0 n0) s₁ (entryFrame m #[(.ref a), (.int i)] 2)
  refine Go.of (fun t kz => castTop (ef_rm_ch m a i) kz) ?_
  show Go _ _ _ _ _ s₁ (mkF m 0 #[.val (.ref a), .val (.int i)] [])
  rcases hP with ⟨rfl, hi, x, hv, hr⟩ | ⟨rfl, hi, hj, hj1, x0, x1, hv0, hv1, hr⟩
  · show Go _ _ _ _ _ s₁ (mkF m 0 #[.val (.ref a), .val (.int i)] [])
    refine Go.of (fun _ kz => XS.aloadN X0.here hx rfl (hb hby d11_0) rfl rfl kz) ?_
    show Go _ _ _ _ _ s₁ (mkF m 1 #[.val (.ref a), .val (.int i)] [(.ref a)])
    refine Go.callV X0 hx hZ hown (y := y_3) (z := y_3) (w56 hw) (w57 hw) (notFace_of_selects (args := #[]) (mvT hZ (w59 hw))) (w59 hw) (w58 hw) (w4 hw) (w60 hw) (by decide) (a := a) (rm_isl l Z a0 hw [] a 0 csz 1 h0 n0 O0 Fc Scs hcs (by decide)) e0 E 0 (by decide) (by decide) (by rw [hml]; rfl) (argsL := []) (rest := []) (lenOf pd_6 rfl) rfl rfl (Nat.le_of_eq rfl) (hb hby d11_1) (c2 := 0) (s2 := 0) rfl rfl (by decide) (by decide) fun v1 T1 Lc1 L1 X1 l1 hQ1 => ?_
    obtain ⟨rfl, N1q, e1⟩ := hQ1
    have N1 : Fr n0 L1 := by rw [l1]; exact Fr.app N0 N1q
    refine Go.of (fun _ kz => XS.ifNo X1.here hx rfl (hb hby d11_4) rfl ((if0 _ _).trans (feq (by decide : ¬ (1 : Int32) = (0 : Int32))).1) kz) ?_
    refine Go.of (fun _ kz => XS.aloadN X1.here hx rfl (hb hby d11_7) rfl rfl kz) ?_
    show Go _ _ _ _ _ T1 (mkF m 8 #[.val (.ref a), .val (.int i)] [(.ref a)])
    refine Go.getF X1 hx hZ hown (host := "") (Or.inl (w26 hw)) Via.refl e1 Fv (hb hby d11_8) fun T2 X2 e2 => ?_
    refine Go.of (fun _ kz => XS.iloadN X2.here hx rfl (hb hby d11_11) rfl kz) ?_
    show Go _ _ _ _ _ T2 (mkF m 12 #[.val (.ref a), .val (.int i)] [(.int i), (.ref b)])
    refine Go.callS X2 hx hZ hown (y := y_2) (w61 hw) (w62 hw) (w63 hw) (w64 hw) (by decide) (rm_l1ch l Z a0 hw [] b i kb z vs x r vf h0 n0 O0 Vb Sf hvf hi hv hr) e2 0 (by decide) (by decide) (by rw [hml]; rfl) (argsL := [(.ref b), (.int i)]) (rest := []) (lenOf pd_5 rfl) rfl rfl (Nat.le_of_eq rfl) (hb hby d11_12) (c2 := 0) (s2 := 0) rfl rfl (by decide) (by decide) fun v3 T3 Lc3 L3 X3 l3 hQ3 => ?_
    obtain ⟨rfl, N3q, e3⟩ := hQ3
    have N3 : Fr n0 L3 := by rw [l3]; exact Fr.app N1 N3q
    refine Go.ret X3 (v := some (.int (nar .char r))) (fun h => by rw [Bd.returns] at h; cases h) Bd.notSynchronized (fun fs hr => retN X3 hx (t := .char) Bd.returns (by simp) (hb hby d11_15) hr) (by decide) (by decide) ?_
    show Q_rm_ch Z _ _ _ _ _ _ _ _ _ _ h0 n0 _ T3.heap _
    rw [e3]
    exact ⟨by rw [hb16], N3, rfl⟩
  · show Go _ _ _ _ _ s₁ (mkF m 0 #[.val (.ref a), .val (.int i)] [])
    refine Go.of (fun _ kz => XS.aloadN X0.here hx rfl (hb hby d11_0) rfl rfl kz) ?_
    show Go _ _ _ _ _ s₁ (mkF m 1 #[.val (.ref a), .val (.int i)] [(.ref a)])
    refine Go.callV X0 hx hZ hown (y := y_3) (z := y_3) (w56 hw) (w57 hw) (notFace_of_selects (args := #[]) (mvT hZ (w59 hw))) (w59 hw) (w58 hw) (w4 hw) (w60 hw) (by decide) (a := a) (rm_isl l Z a0 hw [] a 1 csz 0 h0 n0 O0 Fc Scs hcs (by decide)) e0 E 0 (by decide) (by decide) (by rw [hml]; rfl) (argsL := []) (rest := []) (lenOf pd_6 rfl) rfl rfl (Nat.le_of_eq rfl) (hb hby d11_1) (c2 := 0) (s2 := 0) rfl rfl (by decide) (by decide) fun v4 T4 Lc4 L4 X4 l4 hQ4 => ?_
    obtain ⟨rfl, N4q, e4⟩ := hQ4
    have N4 : Fr n0 L4 := by rw [l4]; exact Fr.app N0 N4q
    refine Go.of (fun _ kz => XS.ifYes X4.here hx rfl (pc0 := 4) (pc' := 16) rfl (hb hby d11_4) rfl ((if0 _ _).trans (teq (by decide : (0 : Int32) = (0 : Int32))).1) (by decide) (by decide) kz) ?_
    refine Go.of (fun _ kz => XS.aloadN X4.here hx rfl (hb hby d11_16) rfl rfl kz) ?_
    show Go _ _ _ _ _ T4 (mkF m 17 #[.val (.ref a), .val (.int i)] [(.ref a)])
    refine Go.getF X4 hx hZ hown (host := "") (Or.inl (w26 hw)) Via.refl e4 Fv (hb hby d11_17) fun T5 X5 e5 => ?_
    refine Go.of (fun _ kz => XS.iloadN X5.here hx rfl (hb hby d11_20) rfl kz) ?_
    show Go _ _ _ _ _ T5 (mkF m 21 #[.val (.ref a), .val (.int i)] [(.int i), (.ref b)])
    refine Go.callS X5 hx hZ hown (y := y_10) (w95 hw) (w96 hw) (w40 hw) (w97 hw) (by decide) (rm_uch l Z a0 hw [] b i kb z vs x0 x1 r vf h0 n0 O0 Vb Sf hvf Sas Shi Slo hi hj hj1 hv0 hv1 hr hb16) e5 0 (by decide) (by decide) (by rw [hml]; rfl) (argsL := [(.ref b), (.int i)]) (rest := []) (lenOf pd_5 rfl) rfl rfl (Nat.le_of_eq rfl) (hb hby d11_21) (c2 := 0) (s2 := 0) rfl rfl (by decide) (by decide) fun v6 T6 Lc6 L6 X6 l6 hQ6 => ?_
    obtain ⟨rfl, N6q, e6⟩ := hQ6
    have N6 : Fr n0 L6 := by rw [l6]; exact Fr.app N4 N6q
    refine Go.ret X6 (v := some (.int (nar .char r))) (fun h => by rw [Bd.returns] at h; cases h) Bd.notSynchronized (fun fs hr => retN X6 hx (t := .char) Bd.returns (by simp) (hb hby d11_24) hr) (by decide) (by decide) ?_
    show Q_rm_ch Z _ _ _ _ _ _ _ _ _ _ h0 n0 _ T6.heap _
    rw [e6]
    exact ⟨by rw [hb16], N6, rfl⟩

theorem d20_0 : decode jdk_52_method_4_code 0 = .ok (.getstatic 44, 3) := by decide +kernel
theorem d20_3 : decode jdk_52_method_4_code 3 = .ok (.ifCond .ne 25, 3) := by decide +kernel
theorem d20_28 : decode jdk_52_method_4_code 28 = .ok (.iload_n 1, 1) := by decide +kernel
theorem d20_29 : decode jdk_52_method_4_code 29 = .ok (.iconst 1, 1) := by decide +kernel
theorem d20_30 : decode jdk_52_method_4_code 30 = .ok (.ishl, 1) := by decide +kernel
theorem d20_31 : decode jdk_52_method_4_code 31 = .ok (.istore_n 1, 1) := by decide +kernel
theorem d20_32 : decode jdk_52_method_4_code 32 = .ok (.aload_n 0, 1) := by decide +kernel
theorem d20_33 : decode jdk_52_method_4_code 33 = .ok (.iload_n 1, 1) := by decide +kernel
theorem d20_34 : decode jdk_52_method_4_code 34 = .ok (.iinc 1 1, 3) := by decide +kernel
theorem d20_37 : decode jdk_52_method_4_code 37 = .ok (.iload_n 2, 1) := by decide +kernel
theorem d20_38 : decode jdk_52_method_4_code 38 = .ok (.getstatic 59, 3) := by decide +kernel
theorem d20_41 : decode jdk_52_method_4_code 41 = .ok (.ishr, 1) := by decide +kernel
theorem d20_42 : decode jdk_52_method_4_code 42 = .ok (.i2b, 1) := by decide +kernel
theorem d20_43 : decode jdk_52_method_4_code 43 = .ok (.bastore, 1) := by decide +kernel
theorem d20_44 : decode jdk_52_method_4_code 44 = .ok (.aload_n 0, 1) := by decide +kernel
theorem d20_45 : decode jdk_52_method_4_code 45 = .ok (.iload_n 1, 1) := by decide +kernel
theorem d20_46 : decode jdk_52_method_4_code 46 = .ok (.iload_n 2, 1) := by decide +kernel
theorem d20_47 : decode jdk_52_method_4_code 47 = .ok (.getstatic 63, 3) := by decide +kernel
theorem d20_50 : decode jdk_52_method_4_code 50 = .ok (.ishr, 1) := by decide +kernel
theorem d20_51 : decode jdk_52_method_4_code 51 = .ok (.i2b, 1) := by decide +kernel
theorem d20_52 : decode jdk_52_method_4_code 52 = .ok (.bastore, 1) := by decide +kernel
theorem d20_53 : decode jdk_52_method_4_code 53 = .ok (.return_, 1) := by decide +kernel
theorem pn_20 : plainName "java/lang/StringUTF16" = true := by first | (simp [plainName, overriddenIn]; done) | decide +kernel
theorem ef_rm_put (m : MethodId) (x0 : Addr) (x1 : Int32) (x2 : Int32) : entryFrame m #[(.ref x0), (.int x1), (.int x2)] 3 = mkF m 0 #[.val (.ref x0), .val (.int x1), .val (.int x2)] [] := by first | (simp [entryFrame, mkF, argsToLocals, Value.category]; done) | rfl
def Q_rm_put (Z : State) (b : Addr) (i : Int32) (cc : Int32) (kb : ClassId) (z : Int32) (vs : List Value) (x0 : Int8) (x1 : Int8) (pl : Nat) (h0 : Heap) (n0 : Nat) (v : Option Value) (h : Heap) (L : List Loc) : Prop := v = none ∧ Fr n0 L ∧ Keep h0 h [b] ∧ Arv Z h b kb .byte z ((vs.set pl (.int x0.toInt32)).set (pl + 1) (.int x1.toInt32)) (.int (0 : Int32))
set_option maxRecDepth 65536 in
set_option maxHeartbeats 40000000 in
theorem rm_put (l : Launch) (Z : State) (a0 : Array Value) (hw : ∀ d ∈ tables_1, d.before a0 Z = true) (wz : List Jvm.Cond) (b : Addr) (i : Int32) (cc : Int32) (kb : ClassId) (z : Int32) (vs : List Value) (x0 : Int8) (x1 : Int8) (pl : Nat) (h0 : Heap) (n0 : Nat) (O0 : Old Z n0 h0) (Vb : Arv Z h0 b kb .byte z vs (.int (0 : Int32))) (Sas : Sta Z Z.heap "java/lang/StringUTF16" "$assertionsDisabled" "Z" (.int (1 : Int32))) (Shi : Sta Z Z.heap "java/lang/StringUTF16" "HI_BYTE_SHIFT" "I" (.int (0 : Int32))) (Slo : Sta Z Z.heap "java/lang/StringUTF16" "LO_BYTE_SHIFT" "I" (.int (8 : Int32))) (ge_b : n0 ≤ b) (hj : ¬ (i <<< ((1 : Int32) &&& 31)) < (0 : Int32) ∧ (i <<< ((1 : Int32) &&& 31)) < z) (hj1 : ¬ ((i <<< ((1 : Int32) &&& 31)) + (1 : Int32)) < (0 : Int32) ∧ ((i <<< ((1 : Int32) &&& 31)) + (1 : Int32)) < z) (hp : ((i <<< ((1 : Int32) &&& 31))).toNatClampNeg = pl) (hp1 : (((i <<< ((1 : Int32) &&& 31)) + (1 : Int32))).toNatClampNeg = pl + 1) (hq : pl < vs.length) (hq1 : pl + 1 < vs.length) (hlo : (cc >>> ((0 : Int32) &&& 31)).toInt8 = x0) (hhi : (cc >>> ((8 : Int32) &&& 31)).toInt8 = x1) :
    MetFree l y_12 (head1 (Jvm.Cond.code y_12 jdk_52_method_4_code 3 none :: wz) ({ frames := 0, cells := 0, slots := 0, locals := 0 } : Room)) (fun aZ UZ => aZ = #[(.ref b), (.int i), (.int cc)] ∧ Z.Warmed39 UZ.vm ∧ UZ.heap = h0) (fun _ _ _ _ _ => True) (fun _ UZ oZ UY => ∃ vZ LZ, oZ = .returned vZ ∧ Q_rm_put Z b i cc kb z vs x0 x1 pl h0 n0 vZ UY.heap LZ ∧ FrameEnd UZ oZ UY LZ ({ frames := 0, cells := 0, slots := 0, locals := 0 } : Room).cells ({ frames := 0, cells := 0, slots := 0, locals := 0 } : Room).slots) := by
  refine MetFree.of_bodySF (plainFor_of_name pn_20) hisR ?_
  intro p e s m args below meth c s₁ Bd hml0 hP hK
  obtain ⟨rfl, hZ, hh⟩ := hP
  have hx := Bd.exec
  have hby := Bd.bytes
  have hml : c.maxLocals = 3 := hml0
  have hown : s.vm.findClass "java/lang/StringUTF16" = some m.cls := findClass_of_methodNamed Bd.named
  have hnm := (name_of_methodNamed Bd.named Bd.method).1
  have X0 : Stand p l e ({ frames := 0, cells := 0, slots := 0, locals := 0 } : Room) s m #[(.ref b), (.int i), (.int cc)] below meth c s₁ [] 0 0 := Stand.of_body Bd
  have e0 : s₁.heap = h0 := by rw [← hh, Bd.state]; rfl
  have N0 := Fr.nil n0
  have Z0 : n0 ≤ h0.size := O0.1 ▸ O0.2.1
  have K0 := Keep.refl h0 []
  show Go p e below (fun oW tW LW => FrameEnd s oW tW LW ({ frames := 0, cells := 0, slots := 0, locals := 0 } : Room).cells ({ frames := 0, cells := 0, slots := 0, locals := 0 } : Room).slots) (Q_rm_put Z b i cc kb z vs x0 x1 pl h0 n0) s₁ (entryFrame m #[(.ref b), (.int i), (.int cc)] 3)
  refine Go.of (fun t kz => castTop (ef_rm_put m b i cc) kz) ?_
  show Go _ _ _ _ _ s₁ (mkF m 0 #[.val (.ref b), .val (.int i), .val (.int cc)] [])
  refine Go.getS X0 hx hZ hown (host := "") (Or.inl (w89 hw)) Via.refl e0 ((Sas).ext O0.2) (hb hby d20_0) fun T1 X1 e1 => ?_
  refine Go.of (fun _ kz => XS.ifYes X1.here hx rfl (pc0 := 3) (pc' := 28) rfl (hb hby d20_3) rfl ((if0 _ _).trans (feq (by decide : ¬ (1 : Int32) = (0 : Int32))).2) (by decide) (by decide) kz) ?_
  refine Go.of (fun _ kz => XS.iloadN X1.here hx rfl (hb hby d20_28) rfl (XS.iconst X1.here hx rfl (hb hby d20_29) (XS.ishl X1.here hx rfl (hb hby d20_30) rfl (XS.istoreN X1.here hx rfl (hb hby d20_31) rfl (l' := #[.val (.ref b), .val (.int (i <<< ((1 : Int32) &&& 31))), .val (.int cc)]) rfl (XS.aloadN X1.here hx rfl (hb hby d20_32) rfl rfl (XS.iloadN X1.here hx rfl (hb hby d20_33) rfl (XS.iinc X1.here hx rfl (hb hby d20_34) rfl (l' := #[.val (.ref b), .val (.int ((i <<< ((1 : Int32) &&& 31)) + (1 : Int32))), .val (.int cc)]) rfl kz))))))) ?_
  show Go _ _ _ _ _ T1 (mkF m 37 #[.val (.ref b), .val (.int ((i <<< ((1 : Int32) &&& 31)) + (1 : Int32))), .val (.int cc)] [(.int (i <<< ((1 : Int32) &&& 31))), (.ref b)])
  refine Go.of (fun _ kz => XS.iloadN X1.here hx rfl (hb hby d20_37) rfl kz) ?_
  show Go _ _ _ _ _ T1 (mkF m 38 #[.val (.ref b), .val (.int ((i <<< ((1 : Int32) &&& 31)) + (1 : Int32))), .val (.int cc)] [(.int cc), (.int (i <<< ((1 : Int32) &&& 31))), (.ref b)])
  refine Go.getS X1 hx hZ hown (host := "") (Or.inl (w90 hw)) Via.refl e1 ((Shi).ext O0.2) (hb hby d20_38) fun T2 X2 e2 => ?_
  refine Go.of (fun _ kz => XS.ishr X2.here hx rfl (hb hby d20_41) rfl (XS.i2b X2.here hx rfl (hb hby d20_42) rfl kz)) ?_
  show Go _ _ _ _ _ T2 (mkF m 43 #[.val (.ref b), .val (.int ((i <<< ((1 : Int32) &&& 31)) + (1 : Int32))), .val (.int cc)] [(.int ((cc >>> ((0 : Int32) &&& 31)).toInt8.toInt32)), (.int (i <<< ((1 : Int32) &&& 31))), (.ref b)])
  rw [hlo]
  show Go _ _ _ _ _ T2 (mkF m 43 #[.val (.ref b), .val (.int ((i <<< ((1 : Int32) &&& 31)) + (1 : Int32))), .val (.int cc)] [(.int (x0.toInt32)), (.int (i <<< ((1 : Int32) &&& 31))), (.ref b)])
  obtain ⟨cl3a, Ar3a, q3a, S3a, N3a, H3a, G3a⟩ := id Vb
  have hin3 := inb_of S3a (j := (i <<< ((1 : Int32) &&& 31))) hj
  obtain ⟨T3, h3, X3, e3, W3, st3⟩ := stB X2 hx hZ e2 Ar3a (j := (i <<< ((1 : Int32) &&& 31))) hin3 (g := (mkF m 43 #[.val (.ref b), .val (.int ((i <<< ((1 : Int32) &&& 31)) + (1 : Int32))), .val (.int cc)] [(.int (x0.toInt32)), (.int (i <<< ((1 : Int32) &&& 31))), (.ref b)])) rfl rfl (hb hby d20_43)
  rw [own_narb x0] at W3
  have V3_b := Arv.set Ar3a q3a S3a N3a H3a G3a (own_fitb _) W3 pl hp hq
  have O3 := O0.wr W3 ge_b
  have Kk3 := (Keep.refl h0 [b]).wr W3 (Or.inl (List.mem_singleton.mpr rfl))
  have N3 := Fr.snoc X3 N0 ge_b
  refine Go.of (fun _ kz => st3 _ kz) ?_
  refine Go.of (fun _ kz => XS.aloadN X3.here hx rfl (hb hby d20_44) rfl rfl (XS.iloadN X3.here hx rfl (hb hby d20_45) rfl (XS.iloadN X3.here hx rfl (hb hby d20_46) rfl kz))) ?_
  show Go _ _ _ _ _ T3 (mkF m 47 #[.val (.ref b), .val (.int ((i <<< ((1 : Int32) &&& 31)) + (1 : Int32))), .val (.int cc)] [(.int cc), (.int ((i <<< ((1 : Int32) &&& 31)) + (1 : Int32))), (.ref b)])
  refine Go.getS X3 hx hZ hown (host := "") (Or.inl (w91 hw)) Via.refl e3 ((Slo).ext O3.2) (hb hby d20_47) fun T4 X4 e4 => ?_
  refine Go.of (fun _ kz => XS.ishr X4.here hx rfl (hb hby d20_50) rfl (XS.i2b X4.here hx rfl (hb hby d20_51) rfl kz)) ?_
  show Go _ _ _ _ _ T4 (mkF m 52 #[.val (.ref b), .val (.int ((i <<< ((1 : Int32) &&& 31)) + (1 : Int32))), .val (.int cc)] [(.int ((cc >>> ((8 : Int32) &&& 31)).toInt8.toInt32)), (.int ((i <<< ((1 : Int32) &&& 31)) + (1 : Int32))), (.ref b)])
  rw [hhi]
  show Go _ _ _ _ _ T4 (mkF m 52 #[.val (.ref b), .val (.int ((i <<< ((1 : Int32) &&& 31)) + (1 : Int32))), .val (.int cc)] [(.int (x1.toInt32)), (.int ((i <<< ((1 : Int32) &&& 31)) + (1 : Int32))), (.ref b)])
  obtain ⟨cl5a, Ar5a, q5a, S5a, N5a, H5a, G5a⟩ := id V3_b
  have hin5 := inb_of S5a (j := ((i <<< ((1 : Int32) &&& 31)) + (1 : Int32))) hj1
  obtain ⟨T5, h5, X5, e5, W5, st5⟩ := stB X4 hx hZ e4 Ar5a (j := ((i <<< ((1 : Int32) &&& 31)) + (1 : Int32))) hin5 (g := (mkF m 52 #[.val (.ref b), .val (.int ((i <<< ((1 : Int32) &&& 31)) + (1 : Int32))), .val (.int cc)] [(.int (x1.toInt32)), (.int ((i <<< ((1 : Int32) &&& 31)) + (1 : Int32))), (.ref b)])) rfl rfl (hb hby d20_52)
  rw [own_narb x1] at W5
  have V5_b := Arv.set Ar5a q5a S5a N5a H5a G5a (own_fitb _) W5 (pl + 1) hp1 (by rw [List.length_set]; exact hq1)
  have O5 := O3.wr W5 ge_b
  have Kk5 := Kk3.wr W5 (Or.inl (List.mem_singleton.mpr rfl))
  have N5 := Fr.snoc X5 N3 ge_b
  refine Go.of (fun _ kz => st5 _ kz) ?_
  refine Go.ret X5 (v := none) (fun _ => rfl) Bd.notSynchronized (fun fs hr => X5.returnOut hx Bd.returns (hb hby d20_53) hr) (by decide) (by decide) ?_
  show Q_rm_put Z _ _ _ _ _ _ _ _ _ h0 n0 _ T5.heap _
  rw [e5]
  exact ⟨rfl, N5, Kk5, V5_b⟩

theorem d8_0 : decode jdk_52_method_21_code 0 = .ok (.iconst 0, 1) := by decide +kernel
theorem d8_1 : decode jdk_52_method_21_code 1 = .ok (.istore 5, 2) := by decide +kernel
theorem d8_3 : decode jdk_52_method_21_code 3 = .ok (.iload 5, 2) := by decide +kernel
theorem d8_5 : decode jdk_52_method_21_code 5 = .ok (.iload 4, 2) := by decide +kernel
theorem d8_7 : decode jdk_52_method_21_code 7 = .ok (.if_icmp .ge 37, 3) := by decide +kernel
theorem d8_10 : decode jdk_52_method_21_code 10 = .ok (.aload_n 0, 1) := by decide +kernel
theorem d8_11 : decode jdk_52_method_21_code 11 = .ok (.iload_n 1, 1) := by decide +kernel
theorem d8_12 : decode jdk_52_method_21_code 12 = .ok (.caload, 1) := by decide +kernel
theorem d8_13 : decode jdk_52_method_21_code 13 = .ok (.istore 6, 2) := by decide +kernel
theorem d8_15 : decode jdk_52_method_21_code 15 = .ok (.iload 6, 2) := by decide +kernel
theorem d8_17 : decode jdk_52_method_21_code 17 = .ok (.sipush 255, 3) := by decide +kernel
theorem d8_20 : decode jdk_52_method_21_code 20 = .ok (.if_icmp .le 6, 3) := by decide +kernel
theorem d8_23 : decode jdk_52_method_21_code 23 = .ok (.iload 5, 2) := by decide +kernel
theorem d8_25 : decode jdk_52_method_21_code 25 = .ok (.ireturn, 1) := by decide +kernel
theorem d8_26 : decode jdk_52_method_21_code 26 = .ok (.aload_n 2, 1) := by decide +kernel
theorem d8_27 : decode jdk_52_method_21_code 27 = .ok (.iload_n 3, 1) := by decide +kernel
theorem d8_28 : decode jdk_52_method_21_code 28 = .ok (.iload 6, 2) := by decide +kernel
theorem d8_30 : decode jdk_52_method_21_code 30 = .ok (.i2b, 1) := by decide +kernel
theorem d8_31 : decode jdk_52_method_21_code 31 = .ok (.bastore, 1) := by decide +kernel
theorem d8_32 : decode jdk_52_method_21_code 32 = .ok (.iinc 1 1, 3) := by decide +kernel
theorem d8_35 : decode jdk_52_method_21_code 35 = .ok (.iinc 3 1, 3) := by decide +kernel
theorem d8_38 : decode jdk_52_method_21_code 38 = .ok (.iinc 5 1, 3) := by decide +kernel
theorem d8_41 : decode jdk_52_method_21_code 41 = .ok (.goto (-38), 3) := by decide +kernel
theorem d8_44 : decode jdk_52_method_21_code 44 = .ok (.iload 4, 2) := by decide +kernel
theorem d8_46 : decode jdk_52_method_21_code 46 = .ok (.ireturn, 1) := by decide +kernel
theorem pn_8 : plainName "java/lang/StringUTF16" = true := by first | (simp [plainName, overriddenIn]; done) | decide +kernel
theorem ef_rm_ci_1 (m : MethodId) (x0 : Addr) (x1 : Int32) (x2 : Addr) (x3 : Int32) (x4 : Int32) : entryFrame m #[(.ref x0), (.int x1), (.ref x2), (.int x3), (.int x4)] 7 = mkF m 0 #[.val (.ref x0), .val (.int x1), .val (.ref x2), .val (.int x3), .val (.int x4), .unset, .unset] [] := by first | (simp [entryFrame, mkF, argsToLocals, Value.category]; done) | rfl
def Q_rm_ci_1 (Z : State) (cs : Addr) (bs : Addr) (kc : ClassId) (kb : ClassId) (u0 : UInt16) (h0 : Heap) (n0 : Nat) (v : Option Value) (h : Heap) (L : List Loc) : Prop := ∃ k : Int32, v = some (.int k) ∧ Fr n0 L ∧ Keep h0 h [bs] ∧ ((k = (1 : Int32) ∧ (¬ (255 : Int32) < (own_ch u0)) ∧ Arv Z h bs kb .byte (1 : Int32) [(.int ((own_lo u0).toInt32))] (.int (0 : Int32))) ∨ ((k = (0 : Int32) ∧ (255 : Int32) < (own_ch u0))))
set_option maxRecDepth 65536 in
set_option maxHeartbeats 40000000 in
theorem rm_ci_1 (l : Launch) (Z : State) (a0 : Array Value) (hw : ∀ d ∈ tables_1, d.before a0 Z = true) (wz : List Jvm.Cond) (cs : Addr) (bs : Addr) (kc : ClassId) (kb : ClassId) (u0 : UInt16) (h0 : Heap) (n0 : Nat) (O0 : Old Z n0 h0) (Vc : Arv Z h0 cs kc .char (1 : Int32) [(.int (own_ch u0))] (.int (0 : Int32))) (Vb : Arv Z h0 bs kb .byte (1 : Int32) [(.int (0 : Int32))] (.int (0 : Int32))) (hne : cs ≠ bs) (ge_bs : n0 ≤ bs) :
    MetFree l y_13 (head1 (Jvm.Cond.code y_13 jdk_52_method_21_code 7 (some .int) :: wz) ({ frames := 0, cells := 0, slots := 0, locals := 0 } : Room)) (fun aZ UZ => aZ = #[(.ref cs), (.int (0 : Int32)), (.ref bs), (.int (0 : Int32)), (.int (1 : Int32))] ∧ Z.Warmed39 UZ.vm ∧ UZ.heap = h0) (fun _ _ _ _ _ => True) (fun _ UZ oZ UY => ∃ vZ LZ, oZ = .returned vZ ∧ Q_rm_ci_1 Z cs bs kc kb u0 h0 n0 vZ UY.heap LZ ∧ FrameEnd UZ oZ UY LZ ({ frames := 0, cells := 0, slots := 0, locals := 0 } : Room).cells ({ frames := 0, cells := 0, slots := 0, locals := 0 } : Room).slots) := by
  refine MetFree.of_bodySF (plainFor_of_name pn_8) hisR ?_
  intro p e s m args below meth c s₁ Bd hml0 hP hK
  obtain ⟨rfl, hZ, hh⟩ := hP
  have hx := Bd.exec
  have hby := Bd.bytes
  have hml : c.maxLocals = 7 := hml0
  have hown : s.vm.findClass "java/lang/StringUTF16" = some m.cls := findClass_of_methodNamed Bd.named
  have hnm := (name_of_methodNamed Bd.named Bd.method).1
  have X0 : Stand p l e ({ frames := 0, cells := 0, slots := 0, locals := 0 } : Room) s m #[(.ref cs), (.int (0 : Int32)), (.ref bs), (.int (0 : Int32)), (.int (1 : Int32))] below meth c s₁ [] 0 0 := Stand.of_body Bd
  have e0 : s₁.heap = h0 := by rw [← hh, Bd.state]; rfl
  have N0 := Fr.nil n0
  have Z0 : n0 ≤ h0.size := O0.1 ▸ O0.2.1
  have K0 := Keep.refl h0 []
  show Go p e below (fun oW tW LW => FrameEnd s oW tW LW ({ frames := 0, cells := 0, slots := 0, locals := 0 } : Room).cells ({ frames := 0, cells := 0, slots := 0, locals := 0 } : Room).slots) (Q_rm_ci_1 Z cs bs kc kb u0 h0 n0) s₁ (entryFrame m #[(.ref cs), (.int (0 : Int32)), (.ref bs), (.int (0 : Int32)), (.int (1 : Int32))] 7)
  refine Go.of (fun t kz => castTop (ef_rm_ci_1 m cs (0 : Int32) bs (0 : Int32) (1 : Int32)) kz) ?_
  show Go _ _ _ _ _ s₁ (mkF m 0 #[.val (.ref cs), .val (.int (0 : Int32)), .val (.ref bs), .val (.int (0 : Int32)), .val (.int (1 : Int32)), .unset, .unset] [])
  refine Go.of (fun _ kz => XS.iconst X0.here hx rfl (hb hby d8_0) (XS.istore X0.here hx rfl (hb hby d8_1) rfl (l' := #[.val (.ref cs), .val (.int (0 : Int32)), .val (.ref bs), .val (.int (0 : Int32)), .val (.int (1 : Int32)), .val (.int (0 : Int32)), .unset]) rfl (XS.iload X0.here hx rfl (hb hby d8_3) rfl (XS.iload X0.here hx rfl (hb hby d8_5) rfl kz)))) ?_
  refine Go.of (fun _ kz => XS.icmpNo X0.here hx rfl (hb hby d8_7) rfl (tlt (by decide : (0 : Int32) < (1 : Int32))).2.1 kz) ?_
  refine Go.of (fun _ kz => XS.aloadN X0.here hx rfl (hb hby d8_10) rfl rfl (XS.iloadN X0.here hx rfl (hb hby d8_11) rfl kz)) ?_
  show Go _ _ _ _ _ s₁ (mkF m 12 #[.val (.ref cs), .val (.int (0 : Int32)), .val (.ref bs), .val (.int (0 : Int32)), .val (.int (1 : Int32)), .val (.int (0 : Int32)), .unset] [(.int (0 : Int32)), (.ref cs)])
  obtain ⟨cl1a, Ar1a, q1a, S1a, N1a, H1a, G1a⟩ := id Vc
  have hin1 := inb_of S1a (j := (0 : Int32)) ⟨by decide, by decide⟩
  refine Go.of (fun _ kz => X0.caload hx (j := (0 : Int32)) (v := (.int (own_ch u0))) (by rw [e0]; exact Ar1a.1) (State.isArrayOf_alike hZ.alike Ar1a.2.1) Ar1a.2.2 hin1 (H1a.at hin1 rfl) (g := (mkF m 12 #[.val (.ref cs), .val (.int (0 : Int32)), .val (.ref bs), .val (.int (0 : Int32)), .val (.int (1 : Int32)), .val (.int (0 : Int32)), .unset] [(.int (0 : Int32)), (.ref cs)])) rfl rfl (hb hby d8_12) _ kz) ?_
  refine Go.of (fun _ kz => XS.istore X0.here hx rfl (hb hby d8_13) rfl (l' := #[.val (.ref cs), .val (.int (0 : Int32)), .val (.ref bs), .val (.int (0 : Int32)), .val (.int (1 : Int32)), .val (.int (0 : Int32)), .val (.int (own_ch u0))]) rfl (XS.iload X0.here hx rfl (hb hby d8_15) rfl (XS.sipush X0.here hx rfl (hb hby d8_17) kz))) ?_
  by_cases hc20_2 : (255 : Int32) < (own_ch u0)
  · refine Go.of (fun _ kz => XS.icmpNo X0.here hx rfl (hb hby d8_20) rfl (tlt hc20_2).2.2.2 kz) ?_
    refine Go.of (fun _ kz => XS.iload X0.here hx rfl (hb hby d8_23) rfl kz) ?_
    refine Go.ret X0 (v := some (.int (0 : Int32))) (fun h => by rw [Bd.returns] at h; cases h) Bd.notSynchronized (fun fs hr => own_retI X0 hx Bd.returns (hb hby d8_25) hr) (by decide) (by decide) ?_
    show Q_rm_ci_1 Z _ _ _ _ _ h0 n0 _ s₁.heap _
    rw [e0]
    exact ⟨_, rfl, N0, (Keep.refl h0 [bs]), Or.inr (⟨rfl, hc20_2⟩)⟩
  · refine Go.of (fun _ kz => XS.icmpYes X0.here hx rfl (pc0 := 20) (pc' := 26) rfl (hb hby d8_20) rfl (flt hc20_2).2.2.2 (by decide) (by decide) kz) ?_
    refine Go.of (fun _ kz => XS.aloadN X0.here hx rfl (hb hby d8_26) rfl rfl (XS.iloadN X0.here hx rfl (hb hby d8_27) rfl (XS.iload X0.here hx rfl (hb hby d8_28) rfl (XS.i2b X0.here hx rfl (hb hby d8_30) rfl kz)))) ?_
    show Go _ _ _ _ _ s₁ (mkF m 31 #[.val (.ref cs), .val (.int (0 : Int32)), .val (.ref bs), .val (.int (0 : Int32)), .val (.int (1 : Int32)), .val (.int (0 : Int32)), .val (.int (own_ch u0))] [(.int ((own_lo u0).toInt32)), (.int (0 : Int32)), (.ref bs)])
    obtain ⟨cl3a, Ar3a, q3a, S3a, N3a, H3a, G3a⟩ := id Vb
    have hin3 := inb_of S3a (j := (0 : Int32)) ⟨by decide, by decide⟩
    obtain ⟨T3, h3, X3, e3, W3, st3⟩ := stB X0 hx hZ e0 Ar3a (j := (0 : Int32)) hin3 (g := (mkF m 31 #[.val (.ref cs), .val (.int (0 : Int32)), .val (.ref bs), .val (.int (0 : Int32)), .val (.int (1 : Int32)), .val (.int (0 : Int32)), .val (.int (own_ch u0))] [(.int ((own_lo u0).toInt32)), (.int (0 : Int32)), (.ref bs)])) rfl rfl (hb hby d8_31)
    rw [own_narb (own_lo u0)] at W3
    have V3_bs : Arv Z h3 bs kb .byte (1 : Int32) [(.int ((own_lo u0).toInt32))] (.int (0 : Int32)) := Arv.set Ar3a q3a S3a N3a H3a G3a (own_fitb _) W3 0 rfl (Nat.le_of_ble_eq_true rfl)
    have f3_Arv_cs := Vc.other W3 hne
    have O3 := O0.wr W3 ge_bs
    have Kk3 := (Keep.refl h0 [bs]).wr W3 (Or.inl (List.mem_singleton.mpr rfl))
    have N3 := Fr.snoc X3 N0 ge_bs
    refine Go.of (fun _ kz => st3 _ kz) ?_
    refine Go.of (fun _ kz => XS.iinc X3.here hx rfl (hb hby d8_32) rfl (l' := #[.val (.ref cs), .val (.int (1 : Int32)), .val (.ref bs), .val (.int (0 : Int32)), .val (.int (1 : Int32)), .val (.int (0 : Int32)), .val (.int (own_ch u0))]) rfl (XS.iinc X3.here hx rfl (hb hby d8_35) rfl (l' := #[.val (.ref cs), .val (.int (1 : Int32)), .val (.ref bs), .val (.int (1 : Int32)), .val (.int (1 : Int32)), .val (.int (0 : Int32)), .val (.int (own_ch u0))]) rfl (XS.iinc X3.here hx rfl (hb hby d8_38) rfl (l' := #[.val (.ref cs), .val (.int (1 : Int32)), .val (.ref bs), .val (.int (1 : Int32)), .val (.int (1 : Int32)), .val (.int (1 : Int32)), .val (.int (own_ch u0))]) rfl (XS.goto X3.here hx rfl (pc0 := 41) (pc' := 3) rfl (hb hby d8_41) (by decide) (by decide) (XS.iload X3.here hx rfl (hb hby d8_3) rfl (XS.iload X3.here hx rfl (hb hby d8_5) rfl kz)))))) ?_
    show Go _ _ _ _ _ T3 (mkF m 7 #[.val (.ref cs), .val (.int (1 : Int32)), .val (.ref bs), .val (.int (1 : Int32)), .val (.int (1 : Int32)), .val (.int (1 : Int32)), .val (.int (own_ch u0))] [(.int (1 : Int32)), (.int (1 : Int32))])
    refine Go.of (fun _ kz => XS.icmpYes X3.here hx rfl (pc0 := 7) (pc' := 44) rfl (hb hby d8_7) rfl (flt (by decide : ¬ (1 : Int32) < (1 : Int32))).2.1 (by decide) (by decide) kz) ?_
    refine Go.of (fun _ kz => XS.iload X3.here hx rfl (hb hby d8_44) rfl kz) ?_
    refine Go.ret X3 (v := some (.int (1 : Int32))) (fun h => by rw [Bd.returns] at h; cases h) Bd.notSynchronized (fun fs hr => own_retI X3 hx Bd.returns (hb hby d8_46) hr) (by decide) (by decide) ?_
    show Q_rm_ci_1 Z _ _ _ _ _ h0 n0 _ T3.heap _
    rw [e3]
    exact ⟨_, rfl, N3, Kk3, Or.inl ⟨rfl, hc20_2, V3_bs⟩⟩

theorem d19_0 : decode jdk_52_method_3_code 0 = .ok (.iload_n 0, 1) := by decide +kernel
theorem d19_1 : decode jdk_52_method_3_code 1 = .ok (.ifCond .ge 11, 3) := by decide +kernel
theorem d19_12 : decode jdk_52_method_3_code 12 = .ok (.iload_n 0, 1) := by decide +kernel
theorem d19_13 : decode jdk_52_method_3_code 13 = .ok (.ldc 20, 2) := by decide +kernel
theorem d19_15 : decode jdk_52_method_3_code 15 = .ok (.if_icmp .lt 40, 3) := by decide +kernel
theorem d19_55 : decode jdk_52_method_3_code 55 = .ok (.iload_n 0, 1) := by decide +kernel
theorem d19_56 : decode jdk_52_method_3_code 56 = .ok (.iconst 1, 1) := by decide +kernel
theorem d19_57 : decode jdk_52_method_3_code 57 = .ok (.ishl, 1) := by decide +kernel
theorem d19_58 : decode jdk_52_method_3_code 58 = .ok (.ireturn, 1) := by decide +kernel
theorem pn_19 : plainName "java/lang/StringUTF16" = true := by first | (simp [plainName, overriddenIn]; done) | decide +kernel
theorem ef_rm_nbl_1 (m : MethodId) (x0 : Int32) : entryFrame m #[(.int x0)] 1 = mkF m 0 #[.val (.int x0)] [] := by first | (simp [entryFrame, mkF, argsToLocals, Value.category]; done) | rfl
def Q_rm_nbl_1 (Z : State)  (h0 : Heap) (n0 : Nat) (v : Option Value) (h : Heap) (L : List Loc) : Prop := v = some (.int (2 : Int32)) ∧ Fr n0 L ∧ h = h0
set_option maxRecDepth 65536 in
set_option maxHeartbeats 40000000 in
theorem rm_nbl_1 (l : Launch) (Z : State) (a0 : Array Value) (hw : ∀ d ∈ tables_1, d.before a0 Z = true) (wz : List Jvm.Cond)  (h0 : Heap) (n0 : Nat) (O0 : Old Z n0 h0) :
    MetFree l y_14 (head1 (Jvm.Cond.code y_14 jdk_52_method_3_code 1 (some .int) :: wz) ({ frames := 0, cells := 0, slots := 0, locals := 0 } : Room)) (fun aZ UZ => aZ = #[(.int (1 : Int32))] ∧ Z.Warmed39 UZ.vm ∧ UZ.heap = h0) (fun _ _ _ _ _ => True) (fun _ UZ oZ UY => ∃ vZ LZ, oZ = .returned vZ ∧ Q_rm_nbl_1 Z  h0 n0 vZ UY.heap LZ ∧ FrameEnd UZ oZ UY LZ ({ frames := 0, cells := 0, slots := 0, locals := 0 } : Room).cells ({ frames := 0, cells := 0, slots := 0, locals := 0 } : Room).slots) := by
  refine MetFree.of_bodySF (plainFor_of_name pn_19) hisR ?_
  intro p e s m args below meth c s₁ Bd hml0 hP hK
  obtain ⟨rfl, hZ, hh⟩ := hP
  have hx := Bd.exec
  have hby := Bd.bytes
  have hml : c.maxLocals = 1 := hml0
  have hown : s.vm.findClass "java/lang/StringUTF16" = some m.cls := findClass_of_methodNamed Bd.named
  have hnm := (name_of_methodNamed Bd.named Bd.method).1
  have X0 : Stand p l e ({ frames := 0, cells := 0, slots := 0, locals := 0 } : Room) s m #[(.int (1 : Int32))] below meth c s₁ [] 0 0 := Stand.of_body Bd
  have e0 : s₁.heap = h0 := by rw [← hh, Bd.state]; rfl
  have N0 := Fr.nil n0
  have Z0 : n0 ≤ h0.size := O0.1 ▸ O0.2.1
  have K0 := Keep.refl h0 []
  show Go p e below (fun oW tW LW => FrameEnd s oW tW LW ({ frames := 0, cells := 0, slots := 0, locals := 0 } : Room).cells ({ frames := 0, cells := 0, slots := 0, locals := 0 } : Room).slots) (Q_rm_nbl_1 Z  h0 n0) s₁ (entryFrame m #[(.int (1 : Int32))] 1)
  refine Go.of (fun t kz => castTop (ef_rm_nbl_1 m (1 : Int32)) kz) ?_
  show Go _ _ _ _ _ s₁ (mkF m 0 #[.val (.int (1 : Int32))] [])
  refine Go.of (fun _ kz => XS.iloadN X0.here hx rfl (hb hby d19_0) rfl kz) ?_
  refine Go.of (fun _ kz => XS.ifYes X0.here hx rfl (pc0 := 1) (pc' := 12) rfl (hb hby d19_1) rfl ((if0 _ _).trans (flt (by decide : ¬ (1 : Int32) < (0 : Int32))).2.1) (by decide) (by decide) kz) ?_
  refine Go.of (fun _ kz => XS.iloadN X0.here hx rfl (hb hby d19_12) rfl (X0.ldcInt hx hown (mvT hZ (w85 hw)) (g := (mkF m 13 #[.val (.int (1 : Int32))] [(.int (1 : Int32))])) rfl (hb hby d19_13) _ kz)) ?_
  refine Go.of (fun _ kz => XS.icmpYes X0.here hx rfl (pc0 := 15) (pc' := 55) rfl (hb hby d19_15) rfl (tlt (by decide : (1 : Int32) < (1073741823 : Int32))).1 (by decide) (by decide) kz) ?_
  refine Go.of (fun _ kz => XS.iloadN X0.here hx rfl (hb hby d19_55) rfl (XS.iconst X0.here hx rfl (hb hby d19_56) (XS.ishl X0.here hx rfl (hb hby d19_57) rfl kz))) ?_
  show Go _ _ _ _ _ s₁ (mkF m 58 #[.val (.int (1 : Int32))] [(.int ((1 : Int32) <<< ((1 : Int32) &&& 31)))])
  rw [(by decide : ((1 : Int32) <<< ((1 : Int32) &&& 31)) = (2 : Int32))]
  show Go _ _ _ _ _ s₁ (mkF m 58 #[.val (.int (1 : Int32))] [(.int (2 : Int32))])
  refine Go.ret X0 (v := some (.int (2 : Int32))) (fun h => by rw [Bd.returns] at h; cases h) Bd.notSynchronized (fun fs hr => own_retI X0 hx Bd.returns (hb hby d19_58) hr) (by decide) (by decide) ?_
  show Q_rm_nbl_1 Z  h0 n0 _ s₁.heap _
  rw [e0]
  exact ⟨rfl, N0, rfl⟩

theorem d18_0 : decode jdk_52_method_2_code 0 = .ok (.iload_n 0, 1) := by decide +kernel
theorem d18_1 : decode jdk_52_method_2_code 1 = .ok (.invokestatic 11, 3) := by decide +kernel
theorem d18_4 : decode jdk_52_method_2_code 4 = .ok (.newarray .byte, 2) := by decide +kernel
theorem d18_6 : decode jdk_52_method_2_code 6 = .ok (.areturn, 1) := by decide +kernel
theorem pn_18 : plainName "java/lang/StringUTF16" = true := by first | (simp [plainName, overriddenIn]; done) | decide +kernel
theorem pd_7 : parseMethodDescriptor "(I)I" = some ⟨[.int], some .int⟩ := by decide +kernel
theorem ef_rm_nbf_1 (m : MethodId) (x0 : Int32) : entryFrame m #[(.int x0)] 1 = mkF m 0 #[.val (.int x0)] [] := by first | (simp [entryFrame, mkF, argsToLocals, Value.category]; done) | rfl
def Q_rm_nbf_1 (Z : State)  (h0 : Heap) (n0 : Nat) (v : Option Value) (h : Heap) (L : List Loc) : Prop := ∃ (b : Addr) (kb : ClassId), v = some (.ref b) ∧ Fr n0 L ∧ Keep h0 h [] ∧ h0.size ≤ b ∧ Arv Z h b kb .byte (2 : Int32) [(.int (0 : Int32)), (.int (0 : Int32))] (.int (0 : Int32))
set_option maxRecDepth 65536 in
set_option maxHeartbeats 40000000 in
theorem rm_nbf_1 (l : Launch) (Z : State) (a0 : Array Value) (hw : ∀ d ∈ tables_1, d.before a0 Z = true) (wz : List Jvm.Cond)  (h0 : Heap) (n0 : Nat) (O0 : Old Z n0 h0) :
    MetFree l y_15 (head1 (Jvm.Cond.code y_15 jdk_52_method_2_code 1 (some (.array .byte)) :: wz) ({ frames := 1, cells := 1, slots := 2, locals := 12 } : Room)) (fun aZ UZ => aZ = #[(.int (1 : Int32))] ∧ Z.Warmed39 UZ.vm ∧ UZ.heap = h0) (fun _ _ _ _ _ => True) (fun _ UZ oZ UY => ∃ vZ LZ, oZ = .returned vZ ∧ Q_rm_nbf_1 Z  h0 n0 vZ UY.heap LZ ∧ FrameEnd UZ oZ UY LZ ({ frames := 1, cells := 1, slots := 2, locals := 12 } : Room).cells ({ frames := 1, cells := 1, slots := 2, locals := 12 } : Room).slots) := by
  refine MetFree.of_bodySF (plainFor_of_name pn_18) hisR ?_
  intro p e s m args below meth c s₁ Bd hml0 hP hK
  obtain ⟨rfl, hZ, hh⟩ := hP
  have hx := Bd.exec
  have hby := Bd.bytes
  have hml : c.maxLocals = 1 := hml0
  have hown : s.vm.findClass "java/lang/StringUTF16" = some m.cls := findClass_of_methodNamed Bd.named
  have hnm := (name_of_methodNamed Bd.named Bd.method).1
  have X0 : Stand p l e ({ frames := 1, cells := 1, slots := 2, locals := 12 } : Room) s m #[(.int (1 : Int32))] below meth c s₁ [] 0 0 := Stand.of_body Bd
  have e0 : s₁.heap = h0 := by rw [← hh, Bd.state]; rfl
  have N0 := Fr.nil n0
  have Z0 : n0 ≤ h0.size := O0.1 ▸ O0.2.1
  have K0 := Keep.refl h0 []
  show Go p e below (fun oW tW LW => FrameEnd s oW tW LW ({ frames := 1, cells := 1, slots := 2, locals := 12 } : Room).cells ({ frames := 1, cells := 1, slots := 2, locals := 12 } : Room).slots) (Q_rm_nbf_1 Z  h0 n0) s₁ (entryFrame m #[(.int (1 : Int32))] 1)
  refine Go.of (fun t kz => castTop (ef_rm_nbf_1 m (1 : Int32)) kz) ?_
  show Go _ _ _ _ _ s₁ (mkF m 0 #[.val (.int (1 : Int32))] [])
  refine Go.of (fun _ kz => XS.iloadN X0.here hx rfl (hb hby d18_0) rfl kz) ?_
  show Go _ _ _ _ _ s₁ (mkF m 1 #[.val (.int (1 : Int32))] [(.int (1 : Int32))])
  refine Go.callS X0 hx hZ hown (y := y_14) (w82 hw) (w83 hw) (w40 hw) (w84 hw) (by decide) (rm_nbl_1 l Z a0 hw [] h0 n0 O0) e0 0 (by decide) (by decide) (by rw [hml]; rfl) (argsL := [(.int (1 : Int32))]) (rest := []) (lenOf pd_7 rfl) rfl rfl (Nat.le_of_eq rfl) (hb hby d18_1) (c2 := 0) (s2 := 0) rfl rfl (by decide) (by decide) fun v1 T1 Lc1 L1 X1 l1 hQ1 => ?_
  obtain ⟨rfl, N1q, e1⟩ := hQ1
  have N1 : Fr n0 L1 := by rw [l1]; exact Fr.app N0 N1q
  obtain ⟨T2, h2, k2, X2, e2, E2, A2, st2⟩ := newP (aty := .byte) X1 hx hZ (w21 hw) e1 (g := (mkF m 4 #[.val (.int (1 : Int32))] [(.int (2 : Int32))])) rfl (hb hby d18_4) rfl (by decide) (cap := 2) (by decide) (by decide) (by decide) (by decide)
  obtain ⟨b2, g2⟩ : ∃ z, z = h0.size := ⟨_, rfl⟩
  rw [← g2] at A2 st2
  have ge_b2 : n0 ≤ b2 := Nat.le_trans (O0.1 ▸ O0.2.1) (Nat.le_of_eq g2.symm)
  have hsz_b2 := Nat.le_of_eq g2.symm
  have sz_b2 : h0.size ≤ b2 := Nat.le_trans (Keep.refl h0 []).1 (Nat.le_of_eq g2.symm)
  have O2 := O0.ext E2
  have Kk2 := (Keep.refl h0 []).ext E2
  have V_b2 : Arv Z h2 b2 k2 .byte (2 : Int32) [(.int (0 : Int32)), (.int (0 : Int32))] (.int (0 : Int32)) := (Arv.new A2 (by decide)).pad (pad_rep [] (.int (0 : Int32)) 2)
  refine Go.of (fun _ kz => st2 _ kz) ?_
  refine Go.ret X2 (v := some (.ref b2)) (fun h => by rw [Bd.returns] at h; cases h) Bd.notSynchronized (fun fs hr => retOut X2 hx Bd.returns rfl (Or.inr (Or.inr (Or.inr (Or.inr ⟨rfl, rfl, rfl⟩)))) (hb hby d18_6) hr) (by decide) (by decide) ?_
  show Q_rm_nbf_1 Z  h0 n0 _ T2.heap _
  rw [e2]
  exact ⟨_, _, rfl, N1, Kk2, sz_b2, V_b2⟩

theorem d17_0 : decode jdk_52_method_14_code 0 = .ok (.iload_n 2, 1) := by decide +kernel
theorem d17_1 : decode jdk_52_method_14_code 1 = .ok (.invokestatic 107, 3) := by decide +kernel
theorem d17_4 : decode jdk_52_method_14_code 4 = .ok (.astore_n 3, 1) := by decide +kernel
theorem d17_5 : decode jdk_52_method_14_code 5 = .ok (.iconst 0, 1) := by decide +kernel
theorem d17_6 : decode jdk_52_method_14_code 6 = .ok (.istore 4, 2) := by decide +kernel
theorem d17_8 : decode jdk_52_method_14_code 8 = .ok (.iload 4, 2) := by decide +kernel
theorem d17_10 : decode jdk_52_method_14_code 10 = .ok (.iload_n 2, 1) := by decide +kernel
theorem d17_11 : decode jdk_52_method_14_code 11 = .ok (.if_icmp .ge 21, 3) := by decide +kernel
theorem d17_14 : decode jdk_52_method_14_code 14 = .ok (.aload_n 3, 1) := by decide +kernel
theorem d17_15 : decode jdk_52_method_14_code 15 = .ok (.iload 4, 2) := by decide +kernel
theorem d17_17 : decode jdk_52_method_14_code 17 = .ok (.aload_n 0, 1) := by decide +kernel
theorem d17_18 : decode jdk_52_method_14_code 18 = .ok (.iload_n 1, 1) := by decide +kernel
theorem d17_19 : decode jdk_52_method_14_code 19 = .ok (.caload, 1) := by decide +kernel
theorem d17_20 : decode jdk_52_method_14_code 20 = .ok (.invokestatic 111, 3) := by decide +kernel
theorem d17_23 : decode jdk_52_method_14_code 23 = .ok (.iinc 1 1, 3) := by decide +kernel
theorem d17_26 : decode jdk_52_method_14_code 26 = .ok (.iinc 4 1, 3) := by decide +kernel
theorem d17_29 : decode jdk_52_method_14_code 29 = .ok (.goto (-21), 3) := by decide +kernel
theorem d17_32 : decode jdk_52_method_14_code 32 = .ok (.aload_n 3, 1) := by decide +kernel
theorem d17_33 : decode jdk_52_method_14_code 33 = .ok (.areturn, 1) := by decide +kernel
theorem pn_17 : plainName "java/lang/StringUTF16" = true := by first | (simp [plainName, overriddenIn]; done) | decide +kernel
theorem pd_8 : parseMethodDescriptor "(I)[B" = some ⟨[.int], some (.array .byte)⟩ := by decide +kernel
theorem pd_9 : parseMethodDescriptor "([BII)V" = some ⟨[(.array .byte), .int, .int], none⟩ := by decide +kernel
theorem ef_rm_tob_1 (m : MethodId) (x0 : Addr) (x1 : Int32) (x2 : Int32) : entryFrame m #[(.ref x0), (.int x1), (.int x2)] 5 = mkF m 0 #[.val (.ref x0), .val (.int x1), .val (.int x2), .unset, .unset] [] := by first | (simp [entryFrame, mkF, argsToLocals, Value.category]; done) | rfl
def Q_rm_tob_1 (Z : State) (cs : Addr) (kc : ClassId) (u0 : UInt16) (h0 : Heap) (n0 : Nat) (v : Option Value) (h : Heap) (L : List Loc) : Prop := ∃ (b : Addr) (kb : ClassId), v = some (.ref b) ∧ Fr n0 L ∧ Keep h0 h [] ∧ h0.size ≤ b ∧ Arv Z h b kb .byte (2 : Int32) [(.int ((own_lo0 u0).toInt32)), (.int ((own_hi8 u0).toInt32))] (.int (0 : Int32))
set_option maxRecDepth 65536 in
set_option maxHeartbeats 40000000 in
theorem rm_tob_1 (l : Launch) (Z : State) (a0 : Array Value) (hw : ∀ d ∈ tables_1, d.before a0 Z = true) (wz : List Jvm.Cond) (cs : Addr) (kc : ClassId) (u0 : UInt16) (h0 : Heap) (n0 : Nat) (O0 : Old Z n0 h0) (Vc : Arv Z h0 cs kc .char (1 : Int32) [(.int (own_ch u0))] (.int (0 : Int32))) (Sas : Sta Z Z.heap "java/lang/StringUTF16" "$assertionsDisabled" "Z" (.int (1 : Int32))) (Shi : Sta Z Z.heap "java/lang/StringUTF16" "HI_BYTE_SHIFT" "I" (.int (0 : Int32))) (Slo : Sta Z Z.heap "java/lang/StringUTF16" "LO_BYTE_SHIFT" "I" (.int (8 : Int32))) :
    MetFree l y_16 (head1 (Jvm.Cond.code y_16 jdk_52_method_14_code 5 (some (.array .byte)) :: wz) ({ frames := 2, cells := 1, slots := 2, locals := 24 } : Room)) (fun aZ UZ => aZ = #[(.ref cs), (.int (0 : Int32)), (.int (1 : Int32))] ∧ Z.Warmed39 UZ.vm ∧ UZ.heap = h0) (fun _ _ _ _ _ => True) (fun _ UZ oZ UY => ∃ vZ LZ, oZ = .returned vZ ∧ Q_rm_tob_1 Z cs kc u0 h0 n0 vZ UY.heap LZ ∧ FrameEnd UZ oZ UY LZ ({ frames := 2, cells := 1, slots := 2, locals := 24 } : Room).cells ({ frames := 2, cells := 1, slots := 2, locals := 24 } : Room).slots) := by
  refine MetFree.of_bodySF (plainFor_of_name pn_17) hisR ?_
  intro p e s m args below meth c s₁ Bd hml0 hP hK
  obtain ⟨rfl, hZ, hh⟩ := hP
  have hx := Bd.exec
  have hby := Bd.bytes
  have hml : c.maxLocals = 5 := hml0
  have hown : s.vm.findClass "java/lang/StringUTF16" = some m.cls := findClass_of_methodNamed Bd.named
  have hnm := (name_of_methodNamed Bd.named Bd.method).1
  have X0 : Stand p l e ({ frames := 2, cells := 1, slots := 2, locals := 24 } : Room) s m #[(.ref cs), (.int (0 : Int32)), (.int (1 : Int32))] below meth c s₁ [] 0 0 := Stand.of_body Bd
  have e0 : s₁.heap = h0 := by rw [← hh, Bd.state]; rfl
  have N0 := Fr.nil n0
  have Z0 : n0 ≤ h0.size := O0.1 ▸ O0.2.1
  have K0 := Keep.refl h0 []
  show Go p e below (fun oW tW LW => FrameEnd s oW tW LW ({ frames := 2, cells := 1, slots := 2, locals := 24 } : Room).cells ({ frames := 2, cells := 1, slots := 2, locals := 24 } : Room).slots) (Q_rm_tob_1 Z cs kc u0 h0 n0) s₁ (entryFrame m #[(.ref cs), (.int (0 : Int32)), (.int (1 : Int32))] 5)
  refine Go.of (fun t kz => castTop (ef_rm_tob_1 m cs (0 : Int32) (1 : Int32)) kz) ?_
  show Go _ _ _ _ _ s₁ (mkF m 0 #[.val (.ref cs), .val (.int (0 : Int32)), .val (.int (1 : Int32)), .unset, .unset] [])
  refine Go.of (fun _ kz => XS.iloadN X0.here hx rfl (hb hby d17_0) rfl kz) ?_
  show Go _ _ _ _ _ s₁ (mkF m 1 #[.val (.ref cs), .val (.int (0 : Int32)), .val (.int (1 : Int32)), .unset, .unset] [(.int (1 : Int32))])
  refine Go.callS X0 hx hZ hown (y := y_15) (w79 hw) (w80 hw) (w40 hw) (w81 hw) (by decide) (rm_nbf_1 l Z a0 hw [] h0 n0 O0) e0 0 (by decide) (by decide) (by rw [hml]; rfl) (argsL := [(.int (1 : Int32))]) (rest := []) (lenOf pd_8 rfl) rfl rfl (Nat.le_of_eq rfl) (hb hby d17_1) (c2 := 1) (s2 := 2) rfl rfl (by decide) (by decide) fun v1 T1 Lc1 L1 X1 l1 hQ1 => ?_
  obtain ⟨b1, kb1, rfl, N1q, K1, hsz1, V1⟩ := hQ1
  have N1 : Fr n0 L1 := by rw [l1]; exact Fr.app N0 N1q
  have ge_b1 : n0 ≤ b1 := Nat.le_trans (O0.1 ▸ O0.2.1) hsz1
  have sz_b1 : h0.size ≤ b1 := Nat.le_trans (Keep.refl h0 []).1 hsz1
  have ne_cs_b1 : cs ≠ b1 := Nat.ne_of_lt (Nat.lt_of_lt_of_le Vc.lt hsz1)
  have f1_Arv_cs := Vc.keep K1 nin0
  have O1 := O0.keep K1 all0
  have Kk1 := (Keep.refl h0 []).trans K1 all0
  refine Go.of (fun _ kz => XS.astoreN X1.here hx rfl (hb hby d17_4) rfl rfl (l' := #[.val (.ref cs), .val (.int (0 : Int32)), .val (.int (1 : Int32)), .val (.ref b1), .unset]) rfl (XS.iconst X1.here hx rfl (hb hby d17_5) (XS.istore X1.here hx rfl (hb hby d17_6) rfl (l' := #[.val (.ref cs), .val (.int (0 : Int32)), .val (.int (1 : Int32)), .val (.ref b1), .val (.int (0 : Int32))]) rfl (XS.iload X1.here hx rfl (hb hby d17_8) rfl (XS.iloadN X1.here hx rfl (hb hby d17_10) rfl kz))))) ?_
  refine Go.of (fun _ kz => XS.icmpNo X1.here hx rfl (hb hby d17_11) rfl (tlt (by decide : (0 : Int32) < (1 : Int32))).2.1 kz) ?_
  show Go _ _ _ _ _ T1 (mkF m 14 #[.val (.ref cs), .val (.int (0 : Int32)), .val (.int (1 : Int32)), .val (.ref b1), .val (.int (0 : Int32))] [])
  refine Go.of (fun _ kz => XS.aloadN X1.here hx rfl (hb hby d17_14) rfl rfl (XS.iload X1.here hx rfl (hb hby d17_15) rfl (XS.aloadN X1.here hx rfl (hb hby d17_17) rfl rfl (XS.iloadN X1.here hx rfl (hb hby d17_18) rfl kz)))) ?_
  obtain ⟨cl2a, Ar2a, q2a, S2a, N2a, H2a, G2a⟩ := id f1_Arv_cs
  have hin2 := inb_of S2a (j := (0 : Int32)) ⟨by decide, by decide⟩
  refine Go.of (fun _ kz => X1.caload hx (j := (0 : Int32)) (v := (.int (own_ch u0))) Ar2a.1 (State.isArrayOf_alike hZ.alike Ar2a.2.1) Ar2a.2.2 hin2 (H2a.at hin2 rfl) (g := (mkF m 19 #[.val (.ref cs), .val (.int (0 : Int32)), .val (.int (1 : Int32)), .val (.ref b1), .val (.int (0 : Int32))] [(.int (0 : Int32)), (.ref cs), (.int (0 : Int32)), (.ref b1)])) rfl rfl (hb hby d17_19) _ kz) ?_
  show Go _ _ _ _ _ T1 (mkF m 20 #[.val (.ref cs), .val (.int (0 : Int32)), .val (.int (1 : Int32)), .val (.ref b1), .val (.int (0 : Int32))] [(.int (own_ch u0)), (.int (0 : Int32)), (.ref b1)])
  refine Go.callS X1 hx hZ hown (y := y_12) (w86 hw) (w87 hw) (w40 hw) (w88 hw) (by decide) (rm_put l Z a0 hw [] b1 (0 : Int32) (own_ch u0) kb1 (2 : Int32) [(.int (0 : Int32)), (.int (0 : Int32))] (own_lo0 u0) (own_hi8 u0) 0 T1.heap n0 O1 V1 Sas Shi Slo ge_b1 ⟨by decide, by decide⟩ ⟨by decide, by decide⟩ (by decide) (by decide) (Nat.le_of_ble_eq_true rfl) (Nat.le_of_ble_eq_true rfl) rfl rfl) rfl 0 (by decide) (by decide) (by rw [hml]; rfl) (argsL := [(.ref b1), (.int (0 : Int32)), (.int (own_ch u0))]) (rest := []) (lenOf pd_9 rfl) rfl rfl (Nat.le_of_eq rfl) (hb hby d17_20) (c2 := 1) (s2 := 2) rfl rfl (by decide) (by decide) fun v3 T3 Lc3 L3 X3 l3 hQ3 => ?_
  obtain ⟨rfl, N3q, K3, V3⟩ := hQ3
  have N3 : Fr n0 L3 := by rw [l3]; exact Fr.app N1 N3q
  have f3_Arv_cs := f1_Arv_cs.keep K3 (ninS ne_cs_b1 nin0)
  have O3 := O1.keep K3 (allS ge_b1 all0)
  have Kk3 := Kk1.trans K3 (allS (Or.inr sz_b1) all0)
  have V3c : Arv Z T3.heap b1 kb1 .byte (2 : Int32) [(.int ((own_lo0 u0).toInt32)), (.int ((own_hi8 u0).toInt32))] (.int (0 : Int32)) := V3
  refine Go.of (fun _ kz => XS.iinc X3.here hx rfl (hb hby d17_23) rfl (l' := #[.val (.ref cs), .val (.int (1 : Int32)), .val (.int (1 : Int32)), .val (.ref b1), .val (.int (0 : Int32))]) rfl (XS.iinc X3.here hx rfl (hb hby d17_26) rfl (l' := #[.val (.ref cs), .val (.int (1 : Int32)), .val (.int (1 : Int32)), .val (.ref b1), .val (.int (1 : Int32))]) rfl (XS.goto X3.here hx rfl (pc0 := 29) (pc' := 8) rfl (hb hby d17_29) (by decide) (by decide) (XS.iload X3.here hx rfl (hb hby d17_8) rfl (XS.iloadN X3.here hx rfl (hb hby d17_10) rfl kz))))) ?_
  refine Go.of (fun _ kz => XS.icmpYes X3.here hx rfl (pc0 := 11) (pc' := 32) rfl (hb hby d17_11) rfl (flt (by decide : ¬ (1 : Int32) < (1 : Int32))).2.1 (by decide) (by decide) kz) ?_
  show Go _ _ _ _ _ T3 (mkF m 32 #[.val (.ref cs), .val (.int (1 : Int32)), .val (.int (1 : Int32)), .val (.ref b1), .val (.int (1 : Int32))] [])
  refine Go.of (fun _ kz => XS.aloadN X3.here hx rfl (hb hby d17_32) rfl rfl kz) ?_
  refine Go.ret X3 (v := some (.ref b1)) (fun h => by rw [Bd.returns] at h; cases h) Bd.notSynchronized (fun fs hr => retOut X3 hx Bd.returns rfl (Or.inr (Or.inr (Or.inr (Or.inr ⟨rfl, rfl, rfl⟩)))) (hb hby d17_33) hr) (by decide) (by decide) ?_
  show Q_rm_tob_1 Z _ _ _ h0 n0 _ T3.heap _
  exact ⟨_, _, rfl, N3, Kk3, sz_b1, V3c⟩

theorem d7_0 : decode jdk_52_method_16_code 0 = .ok (.iload_n 2, 1) := by decide +kernel
theorem d7_1 : decode jdk_52_method_16_code 1 = .ok (.newarray .byte, 2) := by decide +kernel
theorem d7_3 : decode jdk_52_method_16_code 3 = .ok (.astore_n 3, 1) := by decide +kernel
theorem d7_4 : decode jdk_52_method_16_code 4 = .ok (.aload_n 0, 1) := by decide +kernel
theorem d7_5 : decode jdk_52_method_16_code 5 = .ok (.iload_n 1, 1) := by decide +kernel
theorem d7_6 : decode jdk_52_method_16_code 6 = .ok (.aload_n 3, 1) := by decide +kernel
theorem d7_7 : decode jdk_52_method_16_code 7 = .ok (.iconst 0, 1) := by decide +kernel
theorem d7_8 : decode jdk_52_method_16_code 8 = .ok (.iload_n 2, 1) := by decide +kernel
theorem d7_9 : decode jdk_52_method_16_code 9 = .ok (.invokestatic 115, 3) := by decide +kernel
theorem d7_12 : decode jdk_52_method_16_code 12 = .ok (.istore 4, 2) := by decide +kernel
theorem d7_14 : decode jdk_52_method_16_code 14 = .ok (.iload 4, 2) := by decide +kernel
theorem d7_16 : decode jdk_52_method_16_code 16 = .ok (.iload_n 2, 1) := by decide +kernel
theorem d7_17 : decode jdk_52_method_16_code 17 = .ok (.if_icmp .eq 40, 3) := by decide +kernel
theorem d7_20 : decode jdk_52_method_16_code 20 = .ok (.aload_n 0, 1) := by decide +kernel
theorem d7_21 : decode jdk_52_method_16_code 21 = .ok (.iload_n 1, 1) := by decide +kernel
theorem d7_22 : decode jdk_52_method_16_code 22 = .ok (.iload_n 2, 1) := by decide +kernel
theorem d7_23 : decode jdk_52_method_16_code 23 = .ok (.invokestatic 119, 3) := by decide +kernel
theorem d7_26 : decode jdk_52_method_16_code 26 = .ok (.astore 5, 2) := by decide +kernel
theorem d7_28 : decode jdk_52_method_16_code 28 = .ok (.aload 5, 2) := by decide +kernel
theorem d7_30 : decode jdk_52_method_16_code 30 = .ok (.iload 4, 2) := by decide +kernel
theorem d7_32 : decode jdk_52_method_16_code 32 = .ok (.invokestatic 71, 3) := by decide +kernel
theorem d7_35 : decode jdk_52_method_16_code 35 = .ok (.sipush 255, 3) := by decide +kernel
theorem d7_38 : decode jdk_52_method_16_code 38 = .ok (.if_icmp .gt 16, 3) := by decide +kernel
theorem d7_54 : decode jdk_52_method_16_code 54 = .ok (.aload 5, 2) := by decide +kernel
theorem d7_56 : decode jdk_52_method_16_code 56 = .ok (.areturn, 1) := by decide +kernel
theorem d7_57 : decode jdk_52_method_16_code 57 = .ok (.aload_n 3, 1) := by decide +kernel
theorem d7_58 : decode jdk_52_method_16_code 58 = .ok (.areturn, 1) := by decide +kernel
theorem pn_7 : plainName "java/lang/StringUTF16" = true := by first | (simp [plainName, overriddenIn]; done) | decide +kernel
theorem pd_10 : parseMethodDescriptor "([CI[BII)I" = some ⟨[(.array .char), .int, (.array .byte), .int, .int], some .int⟩ := by decide +kernel
theorem pd_11 : parseMethodDescriptor "([CII)[B" = some ⟨[(.array .char), .int, .int], some (.array .byte)⟩ := by decide +kernel
theorem ef_rm_co_1 (m : MethodId) (x0 : Addr) (x1 : Int32) (x2 : Int32) : entryFrame m #[(.ref x0), (.int x1), (.int x2)] 6 = mkF m 0 #[.val (.ref x0), .val (.int x1), .val (.int x2), .unset, .unset, .unset] [] := by first | (simp [entryFrame, mkF, argsToLocals, Value.category]; done) | rfl
def Q_rm_co_1 (Z : State) (cs : Addr) (kc : ClassId) (u0 : UInt16) (h0 : Heap) (n0 : Nat) (v : Option Value) (h : Heap) (L : List Loc) : Prop := ∃ (b : Addr) (kb : ClassId) (z : Int32) (vs : List Value), v = some (.ref b) ∧ Fr n0 L ∧ Keep h0 h [] ∧ h0.size ≤ b ∧ Arv Z h b kb .byte z vs (.int (0 : Int32)) ∧ ((z = (1 : Int32) ∧ vs = [(.int ((own_lo u0).toInt32))] ∧ (¬ (255 : Int32) < (own_ch u0))) ∨ (z = (2 : Int32) ∧ vs = [(.int ((own_lo0 u0).toInt32)), (.int ((own_hi8 u0).toInt32))]))
set_option maxRecDepth 65536 in
set_option maxHeartbeats 40000000 in
theorem rm_co_1 (l : Launch) (Z : State) (a0 : Array Value) (hw : ∀ d ∈ tables_1, d.before a0 Z = true) (wz : List Jvm.Cond) (cs : Addr) (kc : ClassId) (u0 : UInt16) (h0 : Heap) (n0 : Nat) (O0 : Old Z n0 h0) (Vc : Arv Z h0 cs kc .char (1 : Int32) [(.int (own_ch u0))] (.int (0 : Int32))) (Sas : Sta Z Z.heap "java/lang/StringUTF16" "$assertionsDisabled" "Z" (.int (1 : Int32))) (Shi : Sta Z Z.heap "java/lang/StringUTF16" "HI_BYTE_SHIFT" "I" (.int (0 : Int32))) (Slo : Sta Z Z.heap "java/lang/StringUTF16" "LO_BYTE_SHIFT" "I" (.int (8 : Int32))) :
    MetFree l y_17 (head1 (Jvm.Cond.code y_17 jdk_52_method_16_code 6 (some (.array .byte)) :: wz) ({ frames := 3, cells := 2, slots := 3, locals := 40 } : Room)) (fun aZ UZ => aZ = #[(.ref cs), (.int (0 : Int32)), (.int (1 : Int32))] ∧ Z.Warmed39 UZ.vm ∧ UZ.heap = h0) (fun _ _ _ _ _ => True) (fun _ UZ oZ UY => ∃ vZ LZ, oZ = .returned vZ ∧ Q_rm_co_1 Z cs kc u0 h0 n0 vZ UY.heap LZ ∧ FrameEnd UZ oZ UY LZ ({ frames := 3, cells := 2, slots := 3, locals := 40 } : Room).cells ({ frames := 3, cells := 2, slots := 3, locals := 40 } : Room).slots) := by
  refine MetFree.of_bodySF (plainFor_of_name pn_7) hisR ?_
  intro p e s m args below meth c s₁ Bd hml0 hP hK
  obtain ⟨rfl, hZ, hh⟩ := hP
  have hx := Bd.exec
  have hby := Bd.bytes
  have hml : c.maxLocals = 6 := hml0
  have hown : s.vm.findClass "java/lang/StringUTF16" = some m.cls := findClass_of_methodNamed Bd.named
  have hnm := (name_of_methodNamed Bd.named Bd.method).1
  have X0 : Stand p l e ({ frames := 3, cells := 2, slots := 3, locals := 40 } : Room) s m #[(.ref cs), (.int (0 : Int32)), (.int (1 : Int32))] below meth c s₁ [] 0 0 := Stand.of_body Bd
  have e0 : s₁.heap = h0 := by rw [← hh, Bd.state]; rfl
  have N0 := Fr.nil n0
  have Z0 : n0 ≤ h0.size := O0.1 ▸ O0.2.1
  have K0 := Keep.refl h0 []
  show Go p e below (fun oW tW LW => FrameEnd s oW tW LW ({ frames := 3, cells := 2, slots := 3, locals := 40 } : Room).cells ({ frames := 3, cells := 2, slots := 3, locals := 40 } : Room).slots) (Q_rm_co_1 Z cs kc u0 h0 n0) s₁ (entryFrame m #[(.ref cs), (.int (0 : Int32)), (.int (1 : Int32))] 6)
  refine Go.of (fun t kz => castTop (ef_rm_co_1 m cs (0 : Int32) (1 : Int32)) kz) ?_
  show Go _ _ _ _ _ s₁ (mkF m 0 #[.val (.ref cs), .val (.int (0 : Int32)), .val (.int (1 : Int32)), .unset, .unset, .unset] [])
  refine Go.of (fun _ kz => XS.iloadN X0.here hx rfl (hb hby d7_0) rfl kz) ?_
  obtain ⟨T1, h1, k1, X1, e1, E1, A1, st1⟩ := newP (aty := .byte) X0 hx hZ (w21 hw) e0 (g := (mkF m 1 #[.val (.ref cs), .val (.int (0 : Int32)), .val (.int (1 : Int32)), .unset, .unset, .unset] [(.int (1 : Int32))])) rfl (hb hby d7_1) rfl (by decide) (cap := 1) (by decide) (by decide) (by decide) (by decide)
  obtain ⟨b1, g1⟩ : ∃ z, z = h0.size := ⟨_, rfl⟩
  rw [← g1] at A1 st1
  have ne_cs_b1 : cs ≠ b1 := Nat.ne_of_lt (Nat.lt_of_lt_of_le Vc.lt (Nat.le_of_eq g1.symm))
  have ge_b1 : n0 ≤ b1 := Nat.le_trans (O0.1 ▸ O0.2.1) (Nat.le_of_eq g1.symm)
  have hsz_b1 := Nat.le_of_eq g1.symm
  have sz_b1 : h0.size ≤ b1 := Nat.le_trans (Keep.refl h0 []).1 (Nat.le_of_eq g1.symm)
  have f1_Arv_cs := Vc.ext E1
  have O1 := O0.ext E1
  have Kk1 := (Keep.refl h0 []).ext E1
  have V_b1 : Arv Z h1 b1 k1 .byte (1 : Int32) [(.int (0 : Int32))] (.int (0 : Int32)) := (Arv.new A1 (by decide)).pad (pad_rep [] (.int (0 : Int32)) 1)
  refine Go.of (fun _ kz => st1 _ kz) ?_
  refine Go.of (fun _ kz => XS.astoreN X1.here hx rfl (hb hby d7_3) rfl rfl (l' := #[.val (.ref cs), .val (.int (0 : Int32)), .val (.int (1 : Int32)), .val (.ref b1), .unset, .unset]) rfl (XS.aloadN X1.here hx rfl (hb hby d7_4) rfl rfl (XS.iloadN X1.here hx rfl (hb hby d7_5) rfl (XS.aloadN X1.here hx rfl (hb hby d7_6) rfl rfl (XS.iconst X1.here hx rfl (hb hby d7_7) (XS.iloadN X1.here hx rfl (hb hby d7_8) rfl kz)))))) ?_
  show Go _ _ _ _ _ T1 (mkF m 9 #[.val (.ref cs), .val (.int (0 : Int32)), .val (.int (1 : Int32)), .val (.ref b1), .unset, .unset] [(.int (1 : Int32)), (.int (0 : Int32)), (.ref b1), (.int (0 : Int32)), (.ref cs)])
  refine Go.callS X1 hx hZ hown (y := y_13) (w42 hw) (w43 hw) (w40 hw) (w44 hw) (by decide) (rm_ci_1 l Z a0 hw [] cs b1 kc k1 u0 h1 n0 O1 f1_Arv_cs V_b1 ne_cs_b1 ge_b1) e1 0 (by decide) (by decide) (by rw [hml]; rfl) (argsL := [(.ref cs), (.int (0 : Int32)), (.ref b1), (.int (0 : Int32)), (.int (1 : Int32))]) (rest := []) (lenOf pd_10 rfl) rfl rfl (Nat.le_of_eq rfl) (hb hby d7_9) (c2 := 1) (s2 := 1) rfl rfl (by decide) (by decide) fun v2 T2 Lc2 L2 X2 l2 hQ2 => ?_
  obtain ⟨k2, rfl, N2q, K2, hD2⟩ := hQ2
  have N2 : Fr n0 L2 := by rw [l2]; exact Fr.app N0 N2q
  have f2_Arv_cs := f1_Arv_cs.keep K2 (ninS ne_cs_b1 nin0)
  have O2 := O1.keep K2 (allS ge_b1 all0)
  have Kk2 := Kk1.trans K2 (allS (Or.inr sz_b1) all0)
  show Go _ _ _ _ _ T2 (mkF m 12 #[.val (.ref cs), .val (.int (0 : Int32)), .val (.int (1 : Int32)), .val (.ref b1), .unset, .unset] [(.int k2)])
  rcases hD2 with ⟨rfl, hlat2, V2b⟩ | hf2
  · show Go _ _ _ _ _ T2 (mkF m 12 #[.val (.ref cs), .val (.int (0 : Int32)), .val (.int (1 : Int32)), .val (.ref b1), .unset, .unset] [(.int (1 : Int32))])
    refine Go.of (fun _ kz => XS.istore X2.here hx rfl (hb hby d7_12) rfl (l' := #[.val (.ref cs), .val (.int (0 : Int32)), .val (.int (1 : Int32)), .val (.ref b1), .val (.int (1 : Int32)), .unset]) rfl (XS.iload X2.here hx rfl (hb hby d7_14) rfl (XS.iloadN X2.here hx rfl (hb hby d7_16) rfl kz))) ?_
    refine Go.of (fun _ kz => XS.icmpYes X2.here hx rfl (pc0 := 17) (pc' := 57) rfl (hb hby d7_17) rfl (teq (by decide : (1 : Int32) = (1 : Int32))).1 (by decide) (by decide) kz) ?_
    refine Go.of (fun _ kz => XS.aloadN X2.here hx rfl (hb hby d7_57) rfl rfl kz) ?_
    refine Go.ret X2 (v := some (.ref b1)) (fun h => by rw [Bd.returns] at h; cases h) Bd.notSynchronized (fun fs hr => retOut X2 hx Bd.returns rfl (Or.inr (Or.inr (Or.inr (Or.inr ⟨rfl, rfl, rfl⟩)))) (hb hby d7_58) hr) (by decide) (by decide) ?_
    show Q_rm_co_1 Z _ _ _ h0 n0 _ T2.heap _
    exact ⟨_, _, _, _, rfl, N2, Kk2, sz_b1, V2b, Or.inl ⟨rfl, rfl, hlat2⟩⟩
  · show Go _ _ _ _ _ T2 (mkF m 12 #[.val (.ref cs), .val (.int (0 : Int32)), .val (.int (1 : Int32)), .val (.ref b1), .unset, .unset] [(.int k2)])
    refine Go.of (fun _ kz => XS.istore X2.here hx rfl (hb hby d7_12) rfl (l' := #[.val (.ref cs), .val (.int (0 : Int32)), .val (.int (1 : Int32)), .val (.ref b1), .val (.int k2), .unset]) rfl (XS.iload X2.here hx rfl (hb hby d7_14) rfl (XS.iloadN X2.here hx rfl (hb hby d7_16) rfl kz))) ?_
    refine Go.of (fun _ kz => XS.icmpNo X2.here hx rfl (hb hby d7_17) rfl (feq (by rcases hf2 with ⟨rfl, _⟩ <;> decide)).1 kz) ?_
    refine Go.of (fun _ kz => XS.aloadN X2.here hx rfl (hb hby d7_20) rfl rfl (XS.iloadN X2.here hx rfl (hb hby d7_21) rfl (XS.iloadN X2.here hx rfl (hb hby d7_22) rfl kz))) ?_
    show Go _ _ _ _ _ T2 (mkF m 23 #[.val (.ref cs), .val (.int (0 : Int32)), .val (.int (1 : Int32)), .val (.ref b1), .val (.int k2), .unset] [(.int (1 : Int32)), (.int (0 : Int32)), (.ref cs)])
    refine Go.callS X2 hx hZ hown (y := y_16) (w76 hw) (w77 hw) (w40 hw) (w78 hw) (by decide) (rm_tob_1 l Z a0 hw [] cs kc u0 T2.heap n0 O2 f2_Arv_cs Sas Shi Slo) rfl 0 (by decide) (by decide) (by rw [hml]; rfl) (argsL := [(.ref cs), (.int (0 : Int32)), (.int (1 : Int32))]) (rest := []) (lenOf pd_11 rfl) rfl rfl (Nat.le_of_eq rfl) (hb hby d7_23) (c2 := 2) (s2 := 3) rfl rfl (by decide) (by decide) fun v3 T3 Lc3 L3 X3 l3 hQ3 => ?_
    obtain ⟨b3, kb3, rfl, N3q, K3, hsz3, V3⟩ := hQ3
    have N3 : Fr n0 L3 := by rw [l3]; exact Fr.app N2 N3q
    have ge_b3 : n0 ≤ b3 := Nat.le_trans (O2.1 ▸ O2.2.1) hsz3
    have sz_b3 : h0.size ≤ b3 := Nat.le_trans Kk2.1 hsz3
    have f3_Arv_cs := f2_Arv_cs.keep K3 nin0
    have O3 := O2.keep K3 all0
    have Kk3 := Kk2.trans K3 all0
    refine Go.of (fun _ kz => XS.astore X3.here hx rfl (hb hby d7_26) rfl rfl (l' := #[.val (.ref cs), .val (.int (0 : Int32)), .val (.int (1 : Int32)), .val (.ref b1), .val (.int k2), .val (.ref b3)]) rfl (XS.aload X3.here hx rfl (hb hby d7_28) rfl rfl (XS.iload X3.here hx rfl (hb hby d7_30) rfl kz))) ?_
    show Go _ _ _ _ _ T3 (mkF m 32 #[.val (.ref cs), .val (.int (0 : Int32)), .val (.int (1 : Int32)), .val (.ref b1), .val (.int k2), .val (.ref b3)] [(.int k2), (.ref b3)])
    obtain ⟨x0, x1, r, hj, hj1, hv0, hv1, hr, hbg⟩ : ∃ x0 x1 r : Int32, (¬ (k2 <<< ((1 : Int32) &&& 31)) < (0 : Int32) ∧ (k2 <<< ((1 : Int32) &&& 31)) < (2 : Int32)) ∧ (¬ ((k2 <<< ((1 : Int32) &&& 31)) + (1 : Int32)) < (0 : Int32) ∧ ((k2 <<< ((1 : Int32) &&& 31)) + (1 : Int32)) < (2 : Int32)) ∧ ([(.int ((own_lo0 u0).toInt32)), (.int ((own_hi8 u0).toInt32))] : List Value).getD ((k2 <<< ((1 : Int32) &&& 31))).toNatClampNeg (.int (0 : Int32)) = .int x0 ∧ ([(.int ((own_lo0 u0).toInt32)), (.int ((own_hi8 u0).toInt32))] : List Value).getD (((k2 <<< ((1 : Int32) &&& 31)) + (1 : Int32))).toNatClampNeg (.int (0 : Int32)) = .int x1 ∧ nar .char ((((x0 &&& (255 : Int32)) <<< ((0 : Int32) &&& 31)) ||| ((x1 &&& (255 : Int32)) <<< ((8 : Int32) &&& 31))).toUInt32.toUInt16.toUInt32.toInt32) = r ∧ (255 : Int32) < r := by
      rcases hf2 with ⟨rfl, hg⟩
      · exact ⟨_, _, _, ⟨by decide, by decide⟩, ⟨by decide, by decide⟩, rfl, rfl, own_get u0, hg⟩
    refine Go.callS X3 hx hZ hown (y := y_7) (w92 hw) (w93 hw) (w40 hw) (w94 hw) (by decide) (rm_get l Z a0 hw [] b3 k2 kb3 (2 : Int32) [(.int ((own_lo0 u0).toInt32)), (.int ((own_hi8 u0).toInt32))] x0 x1 r T3.heap n0 O3 V3 Sas Shi Slo hj hj1 hv0 hv1 hr) rfl 0 (by decide) (by decide) (by rw [hml]; rfl) (argsL := [(.ref b3), (.int k2)]) (rest := []) (lenOf pd_5 rfl) rfl rfl (Nat.le_of_eq rfl) (hb hby d7_32) (c2 := 2) (s2 := 3) rfl rfl (by decide) (by decide) fun v4 T4 Lc4 L4 X4 l4 hQ4 => ?_
    obtain ⟨rfl, N4q, e4⟩ := hQ4
    have N4 : Fr n0 L4 := by rw [l4]; exact Fr.app N3 N4q
    refine Go.of (fun _ kz => XS.sipush X4.here hx rfl (hb hby d7_35) kz) ?_
    refine Go.of (fun _ kz => XS.icmpYes X4.here hx rfl (pc0 := 38) (pc' := 54) rfl (hb hby d7_38) rfl (tlt hbg).2.2.1 (by decide) (by decide) kz) ?_
    refine Go.of (fun _ kz => XS.aload X4.here hx rfl (hb hby d7_54) rfl rfl kz) ?_
    refine Go.ret X4 (v := some (.ref b3)) (fun h => by rw [Bd.returns] at h; cases h) Bd.notSynchronized (fun fs hr => retOut X4 hx Bd.returns rfl (Or.inr (Or.inr (Or.inr (Or.inr ⟨rfl, rfl, rfl⟩)))) (hb hby d7_56) hr) (by decide) (by decide) ?_
    show Q_rm_co_1 Z _ _ _ h0 n0 _ T4.heap _
    rw [e4]
    exact ⟨_, _, _, _, rfl, N4, Kk3, sz_b3, V3, Or.inr ⟨rfl, rfl⟩⟩

theorem d9_0 : decode jdk_52_method_15_code 0 = .ok (.iload_n 1, 1) := by decide +kernel
theorem d9_1 : decode jdk_52_method_15_code 1 = .ok (.aload_n 0, 1) := by decide +kernel
theorem d9_2 : decode jdk_52_method_15_code 2 = .ok (.arraylength, 1) := by decide +kernel
theorem d9_3 : decode jdk_52_method_15_code 3 = .ok (.isub, 1) := by decide +kernel
theorem d9_4 : decode jdk_52_method_15_code 4 = .ok (.bipush 31, 2) := by decide +kernel
theorem d9_6 : decode jdk_52_method_15_code 6 = .ok (.iushr, 1) := by decide +kernel
theorem d9_7 : decode jdk_52_method_15_code 7 = .ok (.i2b, 1) := by decide +kernel
theorem d9_8 : decode jdk_52_method_15_code 8 = .ok (.ireturn, 1) := by decide +kernel
theorem pn_9 : plainName "java/lang/StringUTF16" = true := by first | (simp [plainName, overriddenIn]; done) | decide +kernel
theorem ef_rm_cal_1_0 (m : MethodId) (x0 : Addr) (x1 : Int32) : entryFrame m #[(.ref x0), (.int x1)] 2 = mkF m 0 #[.val (.ref x0), .val (.int x1)] [] := by first | (simp [entryFrame, mkF, argsToLocals, Value.category]; done) | rfl
def Q_rm_cal_1_0 (Z : State) (b : Addr) (kb : ClassId) (vs : List Value) (h0 : Heap) (n0 : Nat) (v : Option Value) (h : Heap) (L : List Loc) : Prop := v = some (.int (0 : Int32)) ∧ Fr n0 L ∧ h = h0
set_option maxRecDepth 65536 in
set_option maxHeartbeats 40000000 in
theorem rm_cal_1_0 (l : Launch) (Z : State) (a0 : Array Value) (hw : ∀ d ∈ tables_1, d.before a0 Z = true) (wz : List Jvm.Cond) (b : Addr) (kb : ClassId) (vs : List Value) (h0 : Heap) (n0 : Nat) (O0 : Old Z n0 h0) (Vb : Arv Z h0 b kb .byte (1 : Int32) vs (.int (0 : Int32))) :
    MetFree l y_18 (head1 (Jvm.Cond.code y_18 jdk_52_method_15_code 2 (some .byte) :: wz) ({ frames := 0, cells := 0, slots := 0, locals := 0 } : Room)) (fun aZ UZ => aZ = #[(.ref b), (.int (1 : Int32))] ∧ Z.Warmed39 UZ.vm ∧ UZ.heap = h0) (fun _ _ _ _ _ => True) (fun _ UZ oZ UY => ∃ vZ LZ, oZ = .returned vZ ∧ Q_rm_cal_1_0 Z b kb vs h0 n0 vZ UY.heap LZ ∧ FrameEnd UZ oZ UY LZ ({ frames := 0, cells := 0, slots := 0, locals := 0 } : Room).cells ({ frames := 0, cells := 0, slots := 0, locals := 0 } : Room).slots) := by
  refine MetFree.of_bodySF (plainFor_of_name pn_9) hisR ?_
  intro p e s m args below meth c s₁ Bd hml0 hP hK
  obtain ⟨rfl, hZ, hh⟩ := hP
  have hx := Bd.exec
  have hby := Bd.bytes
  have hml : c.maxLocals = 2 := hml0
  have hown : s.vm.findClass "java/lang/StringUTF16" = some m.cls := findClass_of_methodNamed Bd.named
  have hnm := (name_of_methodNamed Bd.named Bd.method).1
  have X0 : Stand p l e ({ frames := 0, cells := 0, slots := 0, locals := 0 } : Room) s m #[(.ref b), (.int (1 : Int32))] below meth c s₁ [] 0 0 := Stand.of_body Bd
  have e0 : s₁.heap = h0 := by rw [← hh, Bd.state]; rfl
  have N0 := Fr.nil n0
  have Z0 : n0 ≤ h0.size := O0.1 ▸ O0.2.1
  have K0 := Keep.refl h0 []
  show Go p e below (fun oW tW LW => FrameEnd s oW tW LW ({ frames := 0, cells := 0, slots := 0, locals := 0 } : Room).cells ({ frames := 0, cells := 0, slots := 0, locals := 0 } : Room).slots) (Q_rm_cal_1_0 Z b kb vs h0 n0) s₁ (entryFrame m #[(.ref b), (.int (1 : Int32))] 2)
  refine Go.of (fun t kz => castTop (ef_rm_cal_1_0 m b (1 : Int32)) kz) ?_
  show Go _ _ _ _ _ s₁ (mkF m 0 #[.val (.ref b), .val (.int (1 : Int32))] [])
  refine Go.of (fun _ kz => XS.iloadN X0.here hx rfl (hb hby d9_0) rfl (XS.aloadN X0.here hx rfl (hb hby d9_1) rfl rfl kz)) ?_
  obtain ⟨cl1a, Ar1a, q1a, S1a, N1a, H1a, G1a⟩ := id Vb
  refine Go.of (fun _ kz => X0.arraylength hx (by rw [e0]; exact Ar1a.1) (State.isArrayOf_alike hZ.alike Ar1a.2.1) (g := (mkF m 2 #[.val (.ref b), .val (.int (1 : Int32))] [(.ref b), (.int (1 : Int32))])) rfl rfl (hb hby d9_2) _ kz) ?_
  rw [(len_of S1a N1a)]
  refine Go.of (fun _ kz => XS.isub X0.here hx rfl (hb hby d9_3) rfl kz) ?_
  show Go _ _ _ _ _ s₁ (mkF m 4 #[.val (.ref b), .val (.int (1 : Int32))] [(.int ((1 : Int32) - (1 : Int32)))])
  rw [(by decide : ((1 : Int32) - (1 : Int32)) = (0 : Int32))]
  refine Go.of (fun _ kz => XS.bipush X0.here hx rfl (hb hby d9_4) (XS.iushr X0.here hx rfl (hb hby d9_6) rfl kz)) ?_
  show Go _ _ _ _ _ s₁ (mkF m 7 #[.val (.ref b), .val (.int (1 : Int32))] [(.int (((0 : Int32).toUInt32 >>> ((31 : Int32) &&& 31).toUInt32).toInt32))])
  rw [(by decide : (((0 : Int32).toUInt32 >>> ((31 : Int32) &&& 31).toUInt32).toInt32) = (0 : Int32))]
  refine Go.of (fun _ kz => XS.i2b X0.here hx rfl (hb hby d9_7) rfl kz) ?_
  show Go _ _ _ _ _ s₁ (mkF m 8 #[.val (.ref b), .val (.int (1 : Int32))] [(.int ((0 : Int32).toInt8.toInt32))])
  rw [(by decide : ((0 : Int32).toInt8.toInt32) = (0 : Int32))]
  show Go _ _ _ _ _ s₁ (mkF m 8 #[.val (.ref b), .val (.int (1 : Int32))] [(.int (0 : Int32))])
  refine Go.ret X0 (v := some (.int (0 : Int32))) (fun h => by rw [Bd.returns] at h; cases h) Bd.notSynchronized (fun fs hr => retN X0 hx (t := .byte) Bd.returns (by simp) (hb hby d9_8) hr) (by decide) (by decide) ?_
  show Q_rm_cal_1_0 Z _ _ _ h0 n0 _ s₁.heap _
  rw [e0]
  exact ⟨rfl, N0, rfl⟩

theorem ef_rm_cal_1_1 (m : MethodId) (x0 : Addr) (x1 : Int32) : entryFrame m #[(.ref x0), (.int x1)] 2 = mkF m 0 #[.val (.ref x0), .val (.int x1)] [] := by first | (simp [entryFrame, mkF, argsToLocals, Value.category]; done) | rfl
def Q_rm_cal_1_1 (Z : State) (b : Addr) (kb : ClassId) (vs : List Value) (h0 : Heap) (n0 : Nat) (v : Option Value) (h : Heap) (L : List Loc) : Prop := v = some (.int (1 : Int32)) ∧ Fr n0 L ∧ h = h0
set_option maxRecDepth 65536 in
set_option maxHeartbeats 40000000 in
theorem rm_cal_1_1 (l : Launch) (Z : State) (a0 : Array Value) (hw : ∀ d ∈ tables_1, d.before a0 Z = true) (wz : List Jvm.Cond) (b : Addr) (kb : ClassId) (vs : List Value) (h0 : Heap) (n0 : Nat) (O0 : Old Z n0 h0) (Vb : Arv Z h0 b kb .byte (2 : Int32) vs (.int (0 : Int32))) :
    MetFree l y_18 (head1 (Jvm.Cond.code y_18 jdk_52_method_15_code 2 (some .byte) :: wz) ({ frames := 0, cells := 0, slots := 0, locals := 0 } : Room)) (fun aZ UZ => aZ = #[(.ref b), (.int (1 : Int32))] ∧ Z.Warmed39 UZ.vm ∧ UZ.heap = h0) (fun _ _ _ _ _ => True) (fun _ UZ oZ UY => ∃ vZ LZ, oZ = .returned vZ ∧ Q_rm_cal_1_1 Z b kb vs h0 n0 vZ UY.heap LZ ∧ FrameEnd UZ oZ UY LZ ({ frames := 0, cells := 0, slots := 0, locals := 0 } : Room).cells ({ frames := 0, cells := 0, slots := 0, locals := 0 } : Room).slots) := by
  refine MetFree.of_bodySF (plainFor_of_name pn_9) hisR ?_
  intro p e s m args below meth c s₁ Bd hml0 hP hK
  obtain ⟨rfl, hZ, hh⟩ := hP
  have hx := Bd.exec
  have hby := Bd.bytes
  have hml : c.maxLocals = 2 := hml0
  have hown : s.vm.findClass "java/lang/StringUTF16" = some m.cls := findClass_of_methodNamed Bd.named
  have hnm := (name_of_methodNamed Bd.named Bd.method).1
  have X0 : Stand p l e ({ frames := 0, cells := 0, slots := 0, locals := 0 } : Room) s m #[(.ref b), (.int (1 : Int32))] below meth c s₁ [] 0 0 := Stand.of_body Bd
  have e0 : s₁.heap = h0 := by rw [← hh, Bd.state]; rfl
  have N0 := Fr.nil n0
  have Z0 : n0 ≤ h0.size := O0.1 ▸ O0.2.1
  have K0 := Keep.refl h0 []
  show Go p e below (fun oW tW LW => FrameEnd s oW tW LW ({ frames := 0, cells := 0, slots := 0, locals := 0 } : Room).cells ({ frames := 0, cells := 0, slots := 0, locals := 0 } : Room).slots) (Q_rm_cal_1_1 Z b kb vs h0 n0) s₁ (entryFrame m #[(.ref b), (.int (1 : Int32))] 2)
  refine Go.of (fun t kz => castTop (ef_rm_cal_1_1 m b (1 : Int32)) kz) ?_
  show Go _ _ _ _ _ s₁ (mkF m 0 #[.val (.ref b), .val (.int (1 : Int32))] [])
  refine Go.of (fun _ kz => XS.iloadN X0.here hx rfl (hb hby d9_0) rfl (XS.aloadN X0.here hx rfl (hb hby d9_1) rfl rfl kz)) ?_
  obtain ⟨cl1a, Ar1a, q1a, S1a, N1a, H1a, G1a⟩ := id Vb
  refine Go.of (fun _ kz => X0.arraylength hx (by rw [e0]; exact Ar1a.1) (State.isArrayOf_alike hZ.alike Ar1a.2.1) (g := (mkF m 2 #[.val (.ref b), .val (.int (1 : Int32))] [(.ref b), (.int (1 : Int32))])) rfl rfl (hb hby d9_2) _ kz) ?_
  rw [(len_of S1a N1a)]
  refine Go.of (fun _ kz => XS.isub X0.here hx rfl (hb hby d9_3) rfl kz) ?_
  show Go _ _ _ _ _ s₁ (mkF m 4 #[.val (.ref b), .val (.int (1 : Int32))] [(.int ((1 : Int32) - (2 : Int32)))])
  rw [(by decide : ((1 : Int32) - (2 : Int32)) = (-1 : Int32))]
  refine Go.of (fun _ kz => XS.bipush X0.here hx rfl (hb hby d9_4) (XS.iushr X0.here hx rfl (hb hby d9_6) rfl kz)) ?_
  show Go _ _ _ _ _ s₁ (mkF m 7 #[.val (.ref b), .val (.int (1 : Int32))] [(.int (((-1 : Int32).toUInt32 >>> ((31 : Int32) &&& 31).toUInt32).toInt32))])
  rw [(by decide : (((-1 : Int32).toUInt32 >>> ((31 : Int32) &&& 31).toUInt32).toInt32) = (1 : Int32))]
  refine Go.of (fun _ kz => XS.i2b X0.here hx rfl (hb hby d9_7) rfl kz) ?_
  show Go _ _ _ _ _ s₁ (mkF m 8 #[.val (.ref b), .val (.int (1 : Int32))] [(.int ((1 : Int32).toInt8.toInt32))])
  rw [(by decide : ((1 : Int32).toInt8.toInt32) = (1 : Int32))]
  show Go _ _ _ _ _ s₁ (mkF m 8 #[.val (.ref b), .val (.int (1 : Int32))] [(.int (1 : Int32))])
  refine Go.ret X0 (v := some (.int (1 : Int32))) (fun h => by rw [Bd.returns] at h; cases h) Bd.notSynchronized (fun fs hr => retN X0 hx (t := .byte) Bd.returns (by simp) (hb hby d9_8) hr) (by decide) (by decide) ?_
  show Q_rm_cal_1_1 Z _ _ _ h0 n0 _ s₁.heap _
  rw [e0]
  exact ⟨rfl, N0, rfl⟩

theorem d3_0 : decode jdk_42_method_149_code 0 = .ok (.aload_n 0, 1) := by decide +kernel
theorem d3_1 : decode jdk_42_method_149_code 1 = .ok (.invokespecial 1, 3) := by decide +kernel
theorem d3_4 : decode jdk_42_method_149_code 4 = .ok (.iload_n 3, 1) := by decide +kernel
theorem d3_5 : decode jdk_42_method_149_code 5 = .ok (.ifCond .ne 22, 3) := by decide +kernel
theorem d3_27 : decode jdk_42_method_149_code 27 = .ok (.getstatic 38, 3) := by decide +kernel
theorem d3_30 : decode jdk_42_method_149_code 30 = .ok (.ifCond .eq 28, 3) := by decide +kernel
theorem d3_33 : decode jdk_42_method_149_code 33 = .ok (.aload_n 1, 1) := by decide +kernel
theorem d3_34 : decode jdk_42_method_149_code 34 = .ok (.iload_n 2, 1) := by decide +kernel
theorem d3_35 : decode jdk_42_method_149_code 35 = .ok (.iload_n 3, 1) := by decide +kernel
theorem d3_36 : decode jdk_42_method_149_code 36 = .ok (.invokestatic 177, 3) := by decide +kernel
theorem d3_39 : decode jdk_42_method_149_code 39 = .ok (.astore 5, 2) := by decide +kernel
theorem d3_41 : decode jdk_42_method_149_code 41 = .ok (.aload_n 0, 1) := by decide +kernel
theorem d3_42 : decode jdk_42_method_149_code 42 = .ok (.aload 5, 2) := by decide +kernel
theorem d3_44 : decode jdk_42_method_149_code 44 = .ok (.iload_n 3, 1) := by decide +kernel
theorem d3_45 : decode jdk_42_method_149_code 45 = .ok (.invokestatic 47, 3) := by decide +kernel
theorem d3_48 : decode jdk_42_method_149_code 48 = .ok (.putfield 15, 3) := by decide +kernel
theorem d3_51 : decode jdk_42_method_149_code 51 = .ok (.aload_n 0, 1) := by decide +kernel
theorem d3_52 : decode jdk_42_method_149_code 52 = .ok (.aload 5, 2) := by decide +kernel
theorem d3_54 : decode jdk_42_method_149_code 54 = .ok (.putfield 9, 3) := by decide +kernel
theorem d3_57 : decode jdk_42_method_149_code 57 = .ok (.return_, 1) := by decide +kernel
theorem pn_3 : plainName "java/lang/String" = true := by first | (simp [plainName, overriddenIn]; done) | decide +kernel
theorem pd_12 : parseMethodDescriptor "([BI)B" = some ⟨[(.array .byte), .int], some .byte⟩ := by decide +kernel
theorem ef_rm_in2_1 (m : MethodId) (x0 : Addr) (x1 : Addr) (x2 : Int32) (x3 : Int32) : entryFrame m #[(.ref x0), (.ref x1), (.int x2), (.int x3), .null] 6 = mkF m 0 #[.val (.ref x0), .val (.ref x1), .val (.int x2), .val (.int x3), .val .null, .unset] [] := by first | (simp [entryFrame, mkF, argsToLocals, Value.category]; done) | rfl
def Q_rm_in2_1 (Z : State) (a : Addr) (cs : Addr) (kc : ClassId) (u0 : UInt16) (csz : Int32) (h0 : Heap) (n0 : Nat) (v : Option Value) (h : Heap) (L : List Loc) : Prop := v = none ∧ Fr n0 L ∧ Keep h0 h [a] ∧ Exa Z h a "java/lang/String" ∧ ∃ (b : Addr) (kb : ClassId) (cd z : Int32) (vs : List Value), Fld Z h a "java/lang/String" "value" "[B" (.ref b) ∧ Fld Z h a "java/lang/String" "coder" "B" (.int cd) ∧ Arv Z h b kb .byte z vs (.int (0 : Int32)) ∧ nar .byte cd = cd ∧ ((cd = (0 : Int32) ∧ z = (1 : Int32) ∧ vs = [(.int ((own_lo u0).toInt32))] ∧ (¬ (255 : Int32) < (own_ch u0))) ∨ (cd = (1 : Int32) ∧ z = (2 : Int32) ∧ vs = [(.int ((own_lo0 u0).toInt32)), (.int ((own_hi8 u0).toInt32))]))
set_option maxRecDepth 65536 in
set_option maxHeartbeats 40000000 in
theorem rm_in2_1 (l : Launch) (Z : State) (a0 : Array Value) (hw : ∀ d ∈ tables_1, d.before a0 Z = true) (wz : List Jvm.Cond) (a : Addr) (cs : Addr) (kc : ClassId) (u0 : UInt16) (csz : Int32) (h0 : Heap) (n0 : Nat) (O0 : Old Z n0 h0) (E : Exa Z h0 a "java/lang/String") (Fv : Fld Z h0 a "java/lang/String" "value" "[B" .null) (Fc : Fld Z h0 a "java/lang/String" "coder" "B" (.int (0 : Int32))) (ge_a : n0 ≤ a) (hac : cs ≠ a) (Vc : Arv Z h0 cs kc .char (1 : Int32) [(.int (own_ch u0))] (.int (0 : Int32))) (Sas : Sta Z Z.heap "java/lang/StringUTF16" "$assertionsDisabled" "Z" (.int (1 : Int32))) (Shi : Sta Z Z.heap "java/lang/StringUTF16" "HI_BYTE_SHIFT" "I" (.int (0 : Int32))) (Slo : Sta Z Z.heap "java/lang/StringUTF16" "LO_BYTE_SHIFT" "I" (.int (8 : Int32))) (Scs : Sta Z Z.heap "java/lang/String" "COMPACT_STRINGS" "Z" (.int csz)) (hcs : ¬ csz = (0 : Int32)) :
    MetFree l y_19 (head1 (Jvm.Cond.code y_19 jdk_42_method_149_code 6 none :: wz) ({ frames := 4, cells := 2, slots := 3, locals := 57 } : Room)) (fun aZ UZ => aZ = #[(.ref a), (.ref cs), (.int (0 : Int32)), (.int (1 : Int32)), .null] ∧ Z.Warmed39 UZ.vm ∧ UZ.heap = h0) (fun _ _ _ _ _ => True) (fun _ UZ oZ UY => ∃ vZ LZ, oZ = .returned vZ ∧ Q_rm_in2_1 Z a cs kc u0 csz h0 n0 vZ UY.heap LZ ∧ FrameEnd UZ oZ UY LZ ({ frames := 4, cells := 2, slots := 3, locals := 57 } : Room).cells ({ frames := 4, cells := 2, slots := 3, locals := 57 } : Room).slots) := by
  refine MetFree.of_bodySF (plainFor_of_name pn_3) hisR ?_
  intro p e s m args below meth c s₁ Bd hml0 hP hK
  obtain ⟨rfl, hZ, hh⟩ := hP
  have hx := Bd.exec
  have hby := Bd.bytes
  have hml : c.maxLocals = 6 := hml0
  have hown : s.vm.findClass "java/lang/String" = some m.cls := findClass_of_methodNamed Bd.named
  have hnm := (name_of_methodNamed Bd.named Bd.method).1
  have X0 : Stand p l e ({ frames := 4, cells := 2, slots := 3, locals := 57 } : Room) s m #[(.ref a), (.ref cs), (.int (0 : Int32)), (.int (1 : Int32)), .null] below meth c s₁ [] 0 0 := Stand.of_body Bd
  have e0 : s₁.heap = h0 := by rw [← hh, Bd.state]; rfl
  have N0 := Fr.nil n0
  have Z0 : n0 ≤ h0.size := O0.1 ▸ O0.2.1
  have K0 := Keep.refl h0 []
  show Go p e below (fun oW tW LW => FrameEnd s oW tW LW ({ frames := 4, cells := 2, slots := 3, locals := 57 } : Room).cells ({ frames := 4, cells := 2, slots := 3, locals := 57 } : Room).slots) (Q_rm_in2_1 Z a cs kc u0 csz h0 n0) s₁ (entryFrame m #[(.ref a), (.ref cs), (.int (0 : Int32)), (.int (1 : Int32)), .null] 6)
  refine Go.of (fun t kz => castTop (ef_rm_in2_1 m a cs (0 : Int32) (1 : Int32)) kz) ?_
  show Go _ _ _ _ _ s₁ (mkF m 0 #[.val (.ref a), .val (.ref cs), .val (.int (0 : Int32)), .val (.int (1 : Int32)), .val .null, .unset] [])
  refine Go.of (fun _ kz => XS.aloadN X0.here hx rfl (hb hby d3_0) rfl rfl kz) ?_
  show Go _ _ _ _ _ s₁ (mkF m 1 #[.val (.ref a), .val (.ref cs), .val (.int (0 : Int32)), .val (.int (1 : Int32)), .val .null, .unset] [(.ref a)])
  obtain ⟨T1, X1, e1, st1⟩ := initO X0 hx hZ hown (w17 hw) (w18 hw) (w19 hw) e0 (g := (mkF m 1 #[.val (.ref a), .val (.ref cs), .val (.int (0 : Int32)), .val (.int (1 : Int32)), .val .null, .unset] [(.ref a)])) rfl (by rw [hml]; rfl) rfl (hb hby d3_1) (by decide) (W := 0) (by show 2 * 0 + _ ≤ _; exact Nat.le_of_eq rfl) (by decide)
  refine Go.of (fun _ kz => st1 _ kz) ?_
  refine Go.of (fun _ kz => XS.iloadN X1.here hx rfl (hb hby d3_4) rfl kz) ?_
  refine Go.of (fun _ kz => XS.ifYes X1.here hx rfl (pc0 := 5) (pc' := 27) rfl (hb hby d3_5) rfl ((if0 _ _).trans (feq (by decide : ¬ (1 : Int32) = (0 : Int32))).2) (by decide) (by decide) kz) ?_
  show Go _ _ _ _ _ T1 (mkF m 27 #[.val (.ref a), .val (.ref cs), .val (.int (0 : Int32)), .val (.int (1 : Int32)), .val .null, .unset] [])
  refine Go.getS X1 hx hZ hown (host := "") (Or.inl (w37 hw)) Via.refl e1 ((Scs).ext O0.2) (hb hby d3_27) fun T2 X2 e2 => ?_
  refine Go.of (fun _ kz => XS.ifNo X2.here hx rfl (hb hby d3_30) rfl ((if0 _ _).trans (feq hcs).1) kz) ?_
  refine Go.of (fun _ kz => XS.aloadN X2.here hx rfl (hb hby d3_33) rfl rfl (XS.iloadN X2.here hx rfl (hb hby d3_34) rfl (XS.iloadN X2.here hx rfl (hb hby d3_35) rfl kz))) ?_
  show Go _ _ _ _ _ T2 (mkF m 36 #[.val (.ref a), .val (.ref cs), .val (.int (0 : Int32)), .val (.int (1 : Int32)), .val .null, .unset] [(.int (1 : Int32)), (.int (0 : Int32)), (.ref cs)])
  refine Go.callS X2 hx hZ hown (y := y_17) (w38 hw) (w39 hw) (w40 hw) (w41 hw) (by decide) (rm_co_1 l Z a0 hw [] cs kc u0 h0 n0 O0 Vc Sas Shi Slo) e2 0 (by decide) (by decide) (by rw [hml]; rfl) (argsL := [(.ref cs), (.int (0 : Int32)), (.int (1 : Int32))]) (rest := []) (lenOf pd_11 rfl) rfl rfl (Nat.le_of_eq rfl) (hb hby d3_36) (c2 := 2) (s2 := 3) rfl rfl (by decide) (by decide) fun v3 T3 Lc3 L3 X3 l3 hQ3 => ?_
  obtain ⟨b3, kb3, zz3, vs3, rfl, N3q, K3, hsz3, V3, hD3⟩ := hQ3
  have N3 : Fr n0 L3 := by rw [l3]; exact Fr.app N0 N3q
  have ne_a_b3 : a ≠ b3 := Nat.ne_of_lt (Nat.lt_of_lt_of_le E.lt hsz3)
  have f3_Exa_a := E.keep K3
  have f3_Fld_a_value := Fv.keep K3 nin0
  have f3_Fld_a_coder := Fc.keep K3 nin0
  have f3_Arv_cs := Vc.keep K3 nin0
  have O3 := O0.keep K3 all0
  have Kk3 := (Keep.refl h0 [a]).trans K3 all0
  show Go _ _ _ _ _ T3 (mkF m 39 #[.val (.ref a), .val (.ref cs), .val (.int (0 : Int32)), .val (.int (1 : Int32)), .val .null, .unset] [(.ref b3)])
  rcases hD3 with ⟨rfl, rfl, hlat⟩ | ⟨rfl, rfl⟩
  · show Go _ _ _ _ _ T3 (mkF m 39 #[.val (.ref a), .val (.ref cs), .val (.int (0 : Int32)), .val (.int (1 : Int32)), .val .null, .unset] [(.ref b3)])
    refine Go.of (fun _ kz => XS.astore X3.here hx rfl (hb hby d3_39) rfl rfl (l' := #[.val (.ref a), .val (.ref cs), .val (.int (0 : Int32)), .val (.int (1 : Int32)), .val .null, .val (.ref b3)]) rfl (XS.aloadN X3.here hx rfl (hb hby d3_41) rfl rfl (XS.aload X3.here hx rfl (hb hby d3_42) rfl rfl (XS.iloadN X3.here hx rfl (hb hby d3_44) rfl kz)))) ?_
    show Go _ _ _ _ _ T3 (mkF m 45 #[.val (.ref a), .val (.ref cs), .val (.int (0 : Int32)), .val (.int (1 : Int32)), .val .null, .val (.ref b3)] [(.int (1 : Int32)), (.ref b3), (.ref a)])
    refine Go.callS X3 hx hZ hown (y := y_18) (w45 hw) (w46 hw) (w40 hw) (w47 hw) (by decide) (rm_cal_1_0 l Z a0 hw [] b3 kb3 [(.int ((own_lo u0).toInt32))] T3.heap n0 O3 V3) rfl 1 (by decide) (by decide) (by rw [hml]; rfl) (argsL := [(.ref b3), (.int (1 : Int32))]) (rest := [(.ref a)]) (lenOf pd_12 rfl) rfl rfl (Nat.le_of_eq rfl) (hb hby d3_45) (c2 := 2) (s2 := 3) rfl rfl (by decide) (by decide) fun v4 T4 Lc4 L4 X4 l4 hQ4 => ?_
    obtain ⟨rfl, N4q, e4⟩ := hQ4
    have N4 : Fr n0 L4 := by rw [l4]; exact Fr.app N3 N4q
    obtain ⟨T5, h5, X5, e5, W5, st5⟩ := putFN X4 hx hZ hown (w27 hw) Via.refl e4 f3_Fld_a_coder f3_Exa_a (Or.inr ⟨(w23 hw), rfl, hnm⟩) (w3 hw) (ty := .byte) (v' := (.int (0 : Int32))) (by decide) rfl (by decide) (g := (mkF m 48 #[.val (.ref a), .val (.ref cs), .val (.int (0 : Int32)), .val (.int (1 : Int32)), .val .null, .val (.ref b3)] [(.int (0 : Int32)), (.ref a)])) rfl rfl (hb hby d3_48)
    have Fw5 := f3_Fld_a_coder.same W5
    have f5_Exa_a := f3_Exa_a.wr W5
    have f5_Fld_a_value := f3_Fld_a_value.other W5 (Or.inr (slot_ne (Or.inr (w22 hw)) (Or.inr (w23 hw)) (by decide) (t := (.array .byte)) (t' := .byte) (by decide) (by decide)))
    have f5_Arv_cs := f3_Arv_cs.other W5 hac
    have f5_Arv_b3 := V3.other W5 (Ne.symm ne_a_b3)
    have O5 := O3.wr W5 ge_a
    have N5 := Fr.snoc X5 N4 ge_a
    have Kk5 := Kk3.wr W5 (Or.inl (List.mem_singleton.mpr rfl))
    refine Go.of (fun _ kz => st5 _ kz) ?_
    refine Go.of (fun _ kz => XS.aloadN X5.here hx rfl (hb hby d3_51) rfl rfl (XS.aload X5.here hx rfl (hb hby d3_52) rfl rfl kz)) ?_
    obtain ⟨T6, h6, X6, e6, W6, st6⟩ := putF X5 hx hZ hown (host := "") (Or.inl (w26 hw)) Via.refl e5 f5_Fld_a_value f5_Exa_a (Or.inr ⟨(w22 hw), rfl, hnm⟩) (w3 hw) (ty := (.array .byte)) (by decide) rfl rfl (g := (mkF m 54 #[.val (.ref a), .val (.ref cs), .val (.int (0 : Int32)), .val (.int (1 : Int32)), .val .null, .val (.ref b3)] [(.ref b3), (.ref a)])) rfl rfl (hb hby d3_54)
    have Fw6 := f5_Fld_a_value.same W6
    have f6_Exa_a := f5_Exa_a.wr W6
    have f6_Fld_a_coder := Fw5.other W6 (Or.inr (slot_ne (Or.inr (w23 hw)) (Or.inr (w22 hw)) (by decide) (t := .byte) (t' := (.array .byte)) (by decide) (by decide)))
    have f6_Arv_cs := f5_Arv_cs.other W6 hac
    have f6_Arv_b3 := f5_Arv_b3.other W6 (Ne.symm ne_a_b3)
    have O6 := O5.wr W6 ge_a
    have N6 := Fr.snoc X6 N5 ge_a
    have Kk6 := Kk5.wr W6 (Or.inl (List.mem_singleton.mpr rfl))
    refine Go.of (fun _ kz => st6 _ kz) ?_
    refine Go.ret X6 (v := none) (fun _ => rfl) Bd.notSynchronized (fun fs hr => X6.returnOut hx Bd.returns (hb hby d3_57) hr) (by decide) (by decide) ?_
    show Q_rm_in2_1 Z _ _ _ _ _ h0 n0 _ T6.heap _
    rw [e6]
    exact ⟨rfl, N6, Kk6, f6_Exa_a, _, _, _, _, _, Fw6, f6_Fld_a_coder, f6_Arv_b3, by decide, Or.inl ⟨rfl, rfl, rfl, hlat⟩⟩
  · show Go _ _ _ _ _ T3 (mkF m 39 #[.val (.ref a), .val (.ref cs), .val (.int (0 : Int32)), .val (.int (1 : Int32)), .val .null, .unset] [(.ref b3)])
    refine Go.of (fun _ kz => XS.astore X3.here hx rfl (hb hby d3_39) rfl rfl (l' := #[.val (.ref a), .val (.ref cs), .val (.int (0 : Int32)), .val (.int (1 : Int32)), .val .null, .val (.ref b3)]) rfl (XS.aloadN X3.here hx rfl (hb hby d3_41) rfl rfl (XS.aload X3.here hx rfl (hb hby d3_42) rfl rfl (XS.iloadN X3.here hx rfl (hb hby d3_44) rfl kz)))) ?_
    show Go _ _ _ _ _ T3 (mkF m 45 #[.val (.ref a), .val (.ref cs), .val (.int (0 : Int32)), .val (.int (1 : Int32)), .val .null, .val (.ref b3)] [(.int (1 : Int32)), (.ref b3), (.ref a)])
    refine Go.callS X3 hx hZ hown (y := y_18) (w45 hw) (w46 hw) (w40 hw) (w47 hw) (by decide) (rm_cal_1_1 l Z a0 hw [] b3 kb3 [(.int ((own_lo0 u0).toInt32)), (.int ((own_hi8 u0).toInt32))] T3.heap n0 O3 V3) rfl 1 (by decide) (by decide) (by rw [hml]; rfl) (argsL := [(.ref b3), (.int (1 : Int32))]) (rest := [(.ref a)]) (lenOf pd_12 rfl) rfl rfl (Nat.le_of_eq rfl) (hb hby d3_45) (c2 := 2) (s2 := 3) rfl rfl (by decide) (by decide) fun v7 T7 Lc7 L7 X7 l7 hQ7 => ?_
    obtain ⟨rfl, N7q, e7⟩ := hQ7
    have N7 : Fr n0 L7 := by rw [l7]; exact Fr.app N3 N7q
    obtain ⟨T8, h8, X8, e8, W8, st8⟩ := putFN X7 hx hZ hown (w27 hw) Via.refl e7 f3_Fld_a_coder f3_Exa_a (Or.inr ⟨(w23 hw), rfl, hnm⟩) (w3 hw) (ty := .byte) (v' := (.int (1 : Int32))) (by decide) rfl (by decide) (g := (mkF m 48 #[.val (.ref a), .val (.ref cs), .val (.int (0 : Int32)), .val (.int (1 : Int32)), .val .null, .val (.ref b3)] [(.int (1 : Int32)), (.ref a)])) rfl rfl (hb hby d3_48)
    have Fw8 := f3_Fld_a_coder.same W8
    have f8_Exa_a := f3_Exa_a.wr W8
    have f8_Fld_a_value := f3_Fld_a_value.other W8 (Or.inr (slot_ne (Or.inr (w22 hw)) (Or.inr (w23 hw)) (by decide) (t := (.array .byte)) (t' := .byte) (by decide) (by decide)))
    have f8_Arv_cs := f3_Arv_cs.other W8 hac
    have f8_Arv_b3 := V3.other W8 (Ne.symm ne_a_b3)
    have O8 := O3.wr W8 ge_a
    have N8 := Fr.snoc X8 N7 ge_a
    have Kk8 := Kk3.wr W8 (Or.inl (List.mem_singleton.mpr rfl))
    refine Go.of (fun _ kz => st8 _ kz) ?_
    refine Go.of (fun _ kz => XS.aloadN X8.here hx rfl (hb hby d3_51) rfl rfl (XS.aload X8.here hx rfl (hb hby d3_52) rfl rfl kz)) ?_
    obtain ⟨T9, h9, X9, e9, W9, st9⟩ := putF X8 hx hZ hown (host := "") (Or.inl (w26 hw)) Via.refl e8 f8_Fld_a_value f8_Exa_a (Or.inr ⟨(w22 hw), rfl, hnm⟩) (w3 hw) (ty := (.array .byte)) (by decide) rfl rfl (g := (mkF m 54 #[.val (.ref a), .val (.ref cs), .val (.int (0 : Int32)), .val (.int (1 : Int32)), .val .null, .val (.ref b3)] [(.ref b3), (.ref a)])) rfl rfl (hb hby d3_54)
    have Fw9 := f8_Fld_a_value.same W9
    have f9_Exa_a := f8_Exa_a.wr W9
    have f9_Fld_a_coder := Fw8.other W9 (Or.inr (slot_ne (Or.inr (w23 hw)) (Or.inr (w22 hw)) (by decide) (t := .byte) (t' := (.array .byte)) (by decide) (by decide)))
    have f9_Arv_cs := f8_Arv_cs.other W9 hac
    have f9_Arv_b3 := f8_Arv_b3.other W9 (Ne.symm ne_a_b3)
    have O9 := O8.wr W9 ge_a
    have N9 := Fr.snoc X9 N8 ge_a
    have Kk9 := Kk8.wr W9 (Or.inl (List.mem_singleton.mpr rfl))
    refine Go.of (fun _ kz => st9 _ kz) ?_
    refine Go.ret X9 (v := none) (fun _ => rfl) Bd.notSynchronized (fun fs hr => X9.returnOut hx Bd.returns (hb hby d3_57) hr) (by decide) (by decide) ?_
    show Q_rm_in2_1 Z _ _ _ _ _ h0 n0 _ T9.heap _
    rw [e9]
    exact ⟨rfl, N9, Kk9, f9_Exa_a, _, _, _, _, _, Fw9, f9_Fld_a_coder, f9_Arv_b3, by decide, Or.inr ⟨rfl, rfl, rfl⟩⟩

theorem d2_0 : decode jdk_42_method_3_code 0 = .ok (.aload_n 0, 1) := by decide +kernel
theorem d2_1 : decode jdk_42_method_3_code 1 = .ok (.aload_n 1, 1) := by decide +kernel
theorem d2_2 : decode jdk_42_method_3_code 2 = .ok (.iconst 0, 1) := by decide +kernel
theorem d2_3 : decode jdk_42_method_3_code 3 = .ok (.aload_n 1, 1) := by decide +kernel
theorem d2_4 : decode jdk_42_method_3_code 4 = .ok (.arraylength, 1) := by decide +kernel
theorem d2_5 : decode jdk_42_method_3_code 5 = .ok (.aconst_null, 1) := by decide +kernel
theorem d2_6 : decode jdk_42_method_3_code 6 = .ok (.invokespecial 27, 3) := by decide +kernel
theorem d2_9 : decode jdk_42_method_3_code 9 = .ok (.return_, 1) := by decide +kernel
theorem pn_2 : plainName "java/lang/String" = true := by first | (simp [plainName, overriddenIn]; done) | decide +kernel
theorem pd_13 : parseMethodDescriptor "([CIILjava/lang/Void;)V" = some ⟨[(.array .char), .int, .int, (.object "java/lang/Void")], none⟩ := by decide +kernel
theorem ef_rm_in1_1 (m : MethodId) (x0 : Addr) (x1 : Addr) : entryFrame m #[(.ref x0), (.ref x1)] 2 = mkF m 0 #[.val (.ref x0), .val (.ref x1)] [] := by first | (simp [entryFrame, mkF, argsToLocals, Value.category]; done) | rfl
def Q_rm_in1_1 (Z : State) (a : Addr) (cs : Addr) (kc : ClassId) (u0 : UInt16) (csz : Int32) (h0 : Heap) (n0 : Nat) (v : Option Value) (h : Heap) (L : List Loc) : Prop := v = none ∧ Fr n0 L ∧ Keep h0 h [a] ∧ Exa Z h a "java/lang/String" ∧ ∃ (b : Addr) (kb : ClassId) (cd z : Int32) (vs : List Value), Fld Z h a "java/lang/String" "value" "[B" (.ref b) ∧ Fld Z h a "java/lang/String" "coder" "B" (.int cd) ∧ Arv Z h b kb .byte z vs (.int (0 : Int32)) ∧ nar .byte cd = cd ∧ ((cd = (0 : Int32) ∧ z = (1 : Int32) ∧ vs = [(.int ((own_lo u0).toInt32))] ∧ (¬ (255 : Int32) < (own_ch u0))) ∨ (cd = (1 : Int32) ∧ z = (2 : Int32) ∧ vs = [(.int ((own_lo0 u0).toInt32)), (.int ((own_hi8 u0).toInt32))]))
set_option maxRecDepth 65536 in
set_option maxHeartbeats 40000000 in
theorem rm_in1_1 (l : Launch) (Z : State) (a0 : Array Value) (hw : ∀ d ∈ tables_1, d.before a0 Z = true) (wz : List Jvm.Cond) (a : Addr) (cs : Addr) (kc : ClassId) (u0 : UInt16) (csz : Int32) (h0 : Heap) (n0 : Nat) (O0 : Old Z n0 h0) (E : Exa Z h0 a "java/lang/String") (Fv : Fld Z h0 a "java/lang/String" "value" "[B" .null) (Fc : Fld Z h0 a "java/lang/String" "coder" "B" (.int (0 : Int32))) (ge_a : n0 ≤ a) (hac : cs ≠ a) (Vc : Arv Z h0 cs kc .char (1 : Int32) [(.int (own_ch u0))] (.int (0 : Int32))) (Sas : Sta Z Z.heap "java/lang/StringUTF16" "$assertionsDisabled" "Z" (.int (1 : Int32))) (Shi : Sta Z Z.heap "java/lang/StringUTF16" "HI_BYTE_SHIFT" "I" (.int (0 : Int32))) (Slo : Sta Z Z.heap "java/lang/StringUTF16" "LO_BYTE_SHIFT" "I" (.int (8 : Int32))) (Scs : Sta Z Z.heap "java/lang/String" "COMPACT_STRINGS" "Z" (.int csz)) (hcs : ¬ csz = (0 : Int32)) :
    MetFree l y_20 (head1 (Jvm.Cond.code y_20 jdk_42_method_3_code 2 none :: wz) ({ frames := 5, cells := 2, slots := 3, locals := 74 } : Room)) (fun aZ UZ => aZ = #[(.ref a), (.ref cs)] ∧ Z.Warmed39 UZ.vm ∧ UZ.heap = h0) (fun _ _ _ _ _ => True) (fun _ UZ oZ UY => ∃ vZ LZ, oZ = .returned vZ ∧ Q_rm_in1_1 Z a cs kc u0 csz h0 n0 vZ UY.heap LZ ∧ FrameEnd UZ oZ UY LZ ({ frames := 5, cells := 2, slots := 3, locals := 74 } : Room).cells ({ frames := 5, cells := 2, slots := 3, locals := 74 } : Room).slots) := by
  refine MetFree.of_bodySF (plainFor_of_name pn_2) hisR ?_
  intro p e s m args below meth c s₁ Bd hml0 hP hK
  obtain ⟨rfl, hZ, hh⟩ := hP
  have hx := Bd.exec
  have hby := Bd.bytes
  have hml : c.maxLocals = 2 := hml0
  have hown : s.vm.findClass "java/lang/String" = some m.cls := findClass_of_methodNamed Bd.named
  have hnm := (name_of_methodNamed Bd.named Bd.method).1
  have X0 : Stand p l e ({ frames := 5, cells := 2, slots := 3, locals := 74 } : Room) s m #[(.ref a), (.ref cs)] below meth c s₁ [] 0 0 := Stand.of_body Bd
  have e0 : s₁.heap = h0 := by rw [← hh, Bd.state]; rfl
  have N0 := Fr.nil n0
  have Z0 : n0 ≤ h0.size := O0.1 ▸ O0.2.1
  have K0 := Keep.refl h0 []
  show Go p e below (fun oW tW LW => FrameEnd s oW tW LW ({ frames := 5, cells := 2, slots := 3, locals := 74 } : Room).cells ({ frames := 5, cells := 2, slots := 3, locals := 74 } : Room).slots) (Q_rm_in1_1 Z a cs kc u0 csz h0 n0) s₁ (entryFrame m #[(.ref a), (.ref cs)] 2)
  refine Go.of (fun t kz => castTop (ef_rm_in1_1 m a cs) kz) ?_
  show Go _ _ _ _ _ s₁ (mkF m 0 #[.val (.ref a), .val (.ref cs)] [])
  refine Go.of (fun _ kz => XS.aloadN X0.here hx rfl (hb hby d2_0) rfl rfl (XS.aloadN X0.here hx rfl (hb hby d2_1) rfl rfl (XS.iconst X0.here hx rfl (hb hby d2_2) (XS.aloadN X0.here hx rfl (hb hby d2_3) rfl rfl kz)))) ?_
  obtain ⟨cl1a, Ar1a, q1a, S1a, N1a, H1a, G1a⟩ := id Vc
  refine Go.of (fun _ kz => X0.arraylength hx (by rw [e0]; exact Ar1a.1) (State.isArrayOf_alike hZ.alike Ar1a.2.1) (g := (mkF m 4 #[.val (.ref a), .val (.ref cs)] [(.ref cs), (.int (0 : Int32)), (.ref cs), (.ref a)])) rfl rfl (hb hby d2_4) _ kz) ?_
  rw [(len_of S1a N1a)]
  refine Go.of (fun _ kz => XS.aconstNull X0.here hx rfl (hb hby d2_5) kz) ?_
  show Go _ _ _ _ _ s₁ (mkF m 6 #[.val (.ref a), .val (.ref cs)] [.null, (.int (1 : Int32)), (.int (0 : Int32)), (.ref cs), (.ref a)])
  refine Go.callI X0 hx hZ hown (y := y_19) rfl (w13 hw) (w14 hw) (w4 hw) (w16 hw) (by decide) (a := a) (rm_in2_1 l Z a0 hw [] a cs kc u0 csz h0 n0 O0 E Fv Fc ge_a hac Vc Sas Shi Slo Scs hcs) e0 0 (by decide) (by decide) (by rw [hml]; rfl) (argsL := [(.ref cs), (.int (0 : Int32)), (.int (1 : Int32)), .null]) (rest := []) (lenOf pd_13 rfl) rfl rfl (Nat.le_of_eq rfl) (hb hby d2_6) (c2 := 2) (s2 := 3) rfl rfl (by decide) (by decide) fun v2 T2 Lc2 L2 X2 l2 hQ2 => ?_
  obtain ⟨rfl, N2q, hR2⟩ := hQ2
  have N2 : Fr n0 L2 := by rw [l2]; exact Fr.app N0 N2q
  refine Go.ret X2 (v := none) (fun _ => rfl) Bd.notSynchronized (fun fs hr => X2.returnOut hx Bd.returns (hb hby d2_9) hr) (by decide) (by decide) ?_
  show Q_rm_in1_1 Z _ _ _ _ _ h0 n0 _ T2.heap _
  exact ⟨rfl, N2, hR2⟩

theorem ef_rm_ci_2 (m : MethodId) (x0 : Addr) (x1 : Int32) (x2 : Addr) (x3 : Int32) (x4 : Int32) : entryFrame m #[(.ref x0), (.int x1), (.ref x2), (.int x3), (.int x4)] 7 = mkF m 0 #[.val (.ref x0), .val (.int x1), .val (.ref x2), .val (.int x3), .val (.int x4), .unset, .unset] [] := by first | (simp [entryFrame, mkF, argsToLocals, Value.category]; done) | rfl
def Q_rm_ci_2 (Z : State) (cs : Addr) (bs : Addr) (kc : ClassId) (kb : ClassId) (u0 : UInt16) (u1 : UInt16) (h0 : Heap) (n0 : Nat) (v : Option Value) (h : Heap) (L : List Loc) : Prop := ∃ k : Int32, v = some (.int k) ∧ Fr n0 L ∧ Keep h0 h [bs] ∧ ((k = (2 : Int32) ∧ (¬ (255 : Int32) < (own_ch u0) ∧ ¬ (255 : Int32) < (own_ch u1)) ∧ Arv Z h bs kb .byte (2 : Int32) [(.int ((own_lo u0).toInt32)), (.int ((own_lo u1).toInt32))] (.int (0 : Int32))) ∨ ((k = (0 : Int32) ∧ (255 : Int32) < (own_ch u0)) ∨ (k = (1 : Int32) ∧ ¬ (255 : Int32) < (own_ch u0) ∧ (255 : Int32) < (own_ch u1))))
set_option maxRecDepth 65536 in
set_option maxHeartbeats 40000000 in
theorem rm_ci_2 (l : Launch) (Z : State) (a0 : Array Value) (hw : ∀ d ∈ tables_1, d.before a0 Z = true) (wz : List Jvm.Cond) (cs : Addr) (bs : Addr) (kc : ClassId) (kb : ClassId) (u0 : UInt16) (u1 : UInt16) (h0 : Heap) (n0 : Nat) (O0 : Old Z n0 h0) (Vc : Arv Z h0 cs kc .char (2 : Int32) [(.int (own_ch u0)), (.int (own_ch u1))] (.int (0 : Int32))) (Vb : Arv Z h0 bs kb .byte (2 : Int32) [(.int (0 : Int32)), (.int (0 : Int32))] (.int (0 : Int32))) (hne : cs ≠ bs) (ge_bs : n0 ≤ bs) :
    MetFree l y_13 (head1 (Jvm.Cond.code y_13 jdk_52_method_21_code 7 (some .int) :: wz) ({ frames := 0, cells := 0, slots := 0, locals := 0 } : Room)) (fun aZ UZ => aZ = #[(.ref cs), (.int (0 : Int32)), (.ref bs), (.int (0 : Int32)), (.int (2 : Int32))] ∧ Z.Warmed39 UZ.vm ∧ UZ.heap = h0) (fun _ _ _ _ _ => True) (fun _ UZ oZ UY => ∃ vZ LZ, oZ = .returned vZ ∧ Q_rm_ci_2 Z cs bs kc kb u0 u1 h0 n0 vZ UY.heap LZ ∧ FrameEnd UZ oZ UY LZ ({ frames := 0, cells := 0, slots := 0, locals := 0 } : Room).cells ({ frames := 0, cells := 0, slots := 0, locals := 0 } : Room).slots) := by
  refine MetFree.of_bodySF (plainFor_of_name pn_8) hisR ?_
  intro p e s m args below meth c s₁ Bd hml0 hP hK
  obtain ⟨rfl, hZ, hh⟩ := hP
  have hx := Bd.exec
  have hby := Bd.bytes
  have hml : c.maxLocals = 7 := hml0
  have hown : s.vm.findClass "java/lang/StringUTF16" = some m.cls := findClass_of_methodNamed Bd.named
  have hnm := (name_of_methodNamed Bd.named Bd.method).1
  have X0 : Stand p l e ({ frames := 0, cells := 0, slots := 0, locals := 0 } : Room) s m #[(.ref cs), (.int (0 : Int32)), (.ref bs), (.int (0 : Int32)), (.int (2 : Int32))] below meth c s₁ [] 0 0 := Stand.of_body Bd
  have e0 : s₁.heap = h0 := by rw [← hh, Bd.state]; rfl
  have N0 := Fr.nil n0
  have Z0 : n0 ≤ h0.size := O0.1 ▸ O0.2.1
  have K0 := Keep.refl h0 []
  show Go p e below (fun oW tW LW => FrameEnd s oW tW LW ({ frames := 0, cells := 0, slots := 0, locals := 0 } : Room).cells ({ frames := 0, cells := 0, slots := 0, locals := 0 } : Room).slots) (Q_rm_ci_2 Z cs bs kc kb u0 u1 h0 n0) s₁ (entryFrame m #[(.ref cs), (.int (0 : Int32)), (.ref bs), (.int (0 : Int32)), (.int (2 : Int32))] 7)
  refine Go.of (fun t kz => castTop (ef_rm_ci_2 m cs (0 : Int32) bs (0 : Int32) (2 : Int32)) kz) ?_
  show Go _ _ _ _ _ s₁ (mkF m 0 #[.val (.ref cs), .val (.int (0 : Int32)), .val (.ref bs), .val (.int (0 : Int32)), .val (.int (2 : Int32)), .unset, .unset] [])
  refine Go.of (fun _ kz => XS.iconst X0.here hx rfl (hb hby d8_0) (XS.istore X0.here hx rfl (hb hby d8_1) rfl (l' := #[.val (.ref cs), .val (.int (0 : Int32)), .val (.ref bs), .val (.int (0 : Int32)), .val (.int (2 : Int32)), .val (.int (0 : Int32)), .unset]) rfl (XS.iload X0.here hx rfl (hb hby d8_3) rfl (XS.iload X0.here hx rfl (hb hby d8_5) rfl kz)))) ?_
  refine Go.of (fun _ kz => XS.icmpNo X0.here hx rfl (hb hby d8_7) rfl (tlt (by decide : (0 : Int32) < (2 : Int32))).2.1 kz) ?_
  refine Go.of (fun _ kz => XS.aloadN X0.here hx rfl (hb hby d8_10) rfl rfl (XS.iloadN X0.here hx rfl (hb hby d8_11) rfl kz)) ?_
  show Go _ _ _ _ _ s₁ (mkF m 12 #[.val (.ref cs), .val (.int (0 : Int32)), .val (.ref bs), .val (.int (0 : Int32)), .val (.int (2 : Int32)), .val (.int (0 : Int32)), .unset] [(.int (0 : Int32)), (.ref cs)])
  obtain ⟨cl1a, Ar1a, q1a, S1a, N1a, H1a, G1a⟩ := id Vc
  have hin1 := inb_of S1a (j := (0 : Int32)) ⟨by decide, by decide⟩
  refine Go.of (fun _ kz => X0.caload hx (j := (0 : Int32)) (v := (.int (own_ch u0))) (by rw [e0]; exact Ar1a.1) (State.isArrayOf_alike hZ.alike Ar1a.2.1) Ar1a.2.2 hin1 (H1a.at hin1 rfl) (g := (mkF m 12 #[.val (.ref cs), .val (.int (0 : Int32)), .val (.ref bs), .val (.int (0 : Int32)), .val (.int (2 : Int32)), .val (.int (0 : Int32)), .unset] [(.int (0 : Int32)), (.ref cs)])) rfl rfl (hb hby d8_12) _ kz) ?_
  refine Go.of (fun _ kz => XS.istore X0.here hx rfl (hb hby d8_13) rfl (l' := #[.val (.ref cs), .val (.int (0 : Int32)), .val (.ref bs), .val (.int (0 : Int32)), .val (.int (2 : Int32)), .val (.int (0 : Int32)), .val (.int (own_ch u0))]) rfl (XS.iload X0.here hx rfl (hb hby d8_15) rfl (XS.sipush X0.here hx rfl (hb hby d8_17) kz))) ?_
  by_cases hc20_2 : (255 : Int32) < (own_ch u0)
  · refine Go.of (fun _ kz => XS.icmpNo X0.here hx rfl (hb hby d8_20) rfl (tlt hc20_2).2.2.2 kz) ?_
    refine Go.of (fun _ kz => XS.iload X0.here hx rfl (hb hby d8_23) rfl kz) ?_
    refine Go.ret X0 (v := some (.int (0 : Int32))) (fun h => by rw [Bd.returns] at h; cases h) Bd.notSynchronized (fun fs hr => own_retI X0 hx Bd.returns (hb hby d8_25) hr) (by decide) (by decide) ?_
    show Q_rm_ci_2 Z _ _ _ _ _ _ h0 n0 _ s₁.heap _
    rw [e0]
    exact ⟨_, rfl, N0, (Keep.refl h0 [bs]), Or.inr (Or.inl ⟨rfl, hc20_2⟩)⟩
  · refine Go.of (fun _ kz => XS.icmpYes X0.here hx rfl (pc0 := 20) (pc' := 26) rfl (hb hby d8_20) rfl (flt hc20_2).2.2.2 (by decide) (by decide) kz) ?_
    refine Go.of (fun _ kz => XS.aloadN X0.here hx rfl (hb hby d8_26) rfl rfl (XS.iloadN X0.here hx rfl (hb hby d8_27) rfl (XS.iload X0.here hx rfl (hb hby d8_28) rfl (XS.i2b X0.here hx rfl (hb hby d8_30) rfl kz)))) ?_
    show Go _ _ _ _ _ s₁ (mkF m 31 #[.val (.ref cs), .val (.int (0 : Int32)), .val (.ref bs), .val (.int (0 : Int32)), .val (.int (2 : Int32)), .val (.int (0 : Int32)), .val (.int (own_ch u0))] [(.int ((own_lo u0).toInt32)), (.int (0 : Int32)), (.ref bs)])
    obtain ⟨cl3a, Ar3a, q3a, S3a, N3a, H3a, G3a⟩ := id Vb
    have hin3 := inb_of S3a (j := (0 : Int32)) ⟨by decide, by decide⟩
    obtain ⟨T3, h3, X3, e3, W3, st3⟩ := stB X0 hx hZ e0 Ar3a (j := (0 : Int32)) hin3 (g := (mkF m 31 #[.val (.ref cs), .val (.int (0 : Int32)), .val (.ref bs), .val (.int (0 : Int32)), .val (.int (2 : Int32)), .val (.int (0 : Int32)), .val (.int (own_ch u0))] [(.int ((own_lo u0).toInt32)), (.int (0 : Int32)), (.ref bs)])) rfl rfl (hb hby d8_31)
    rw [own_narb (own_lo u0)] at W3
    have V3_bs : Arv Z h3 bs kb .byte (2 : Int32) [(.int ((own_lo u0).toInt32)), (.int (0 : Int32))] (.int (0 : Int32)) := Arv.set Ar3a q3a S3a N3a H3a G3a (own_fitb _) W3 0 rfl (Nat.le_of_ble_eq_true rfl)
    have f3_Arv_cs := Vc.other W3 hne
    have O3 := O0.wr W3 ge_bs
    have Kk3 := (Keep.refl h0 [bs]).wr W3 (Or.inl (List.mem_singleton.mpr rfl))
    have N3 := Fr.snoc X3 N0 ge_bs
    refine Go.of (fun _ kz => st3 _ kz) ?_
    refine Go.of (fun _ kz => XS.iinc X3.here hx rfl (hb hby d8_32) rfl (l' := #[.val (.ref cs), .val (.int (1 : Int32)), .val (.ref bs), .val (.int (0 : Int32)), .val (.int (2 : Int32)), .val (.int (0 : Int32)), .val (.int (own_ch u0))]) rfl (XS.iinc X3.here hx rfl (hb hby d8_35) rfl (l' := #[.val (.ref cs), .val (.int (1 : Int32)), .val (.ref bs), .val (.int (1 : Int32)), .val (.int (2 : Int32)), .val (.int (0 : Int32)), .val (.int (own_ch u0))]) rfl (XS.iinc X3.here hx rfl (hb hby d8_38) rfl (l' := #[.val (.ref cs), .val (.int (1 : Int32)), .val (.ref bs), .val (.int (1 : Int32)), .val (.int (2 : Int32)), .val (.int (1 : Int32)), .val (.int (own_ch u0))]) rfl (XS.goto X3.here hx rfl (pc0 := 41) (pc' := 3) rfl (hb hby d8_41) (by decide) (by decide) (XS.iload X3.here hx rfl (hb hby d8_3) rfl (XS.iload X3.here hx rfl (hb hby d8_5) rfl kz)))))) ?_
    show Go _ _ _ _ _ T3 (mkF m 7 #[.val (.ref cs), .val (.int (1 : Int32)), .val (.ref bs), .val (.int (1 : Int32)), .val (.int (2 : Int32)), .val (.int (1 : Int32)), .val (.int (own_ch u0))] [(.int (2 : Int32)), (.int (1 : Int32))])
    refine Go.of (fun _ kz => XS.icmpNo X3.here hx rfl (hb hby d8_7) rfl (tlt (by decide : (1 : Int32) < (2 : Int32))).2.1 kz) ?_
    refine Go.of (fun _ kz => XS.aloadN X3.here hx rfl (hb hby d8_10) rfl rfl (XS.iloadN X3.here hx rfl (hb hby d8_11) rfl kz)) ?_
    obtain ⟨cl4a, Ar4a, q4a, S4a, N4a, H4a, G4a⟩ := id f3_Arv_cs
    have hin4 := inb_of S4a (j := (1 : Int32)) ⟨by decide, by decide⟩
    refine Go.of (fun _ kz => X3.caload hx (j := (1 : Int32)) (v := (.int (own_ch u1))) (by rw [e3]; exact Ar4a.1) (State.isArrayOf_alike hZ.alike Ar4a.2.1) Ar4a.2.2 hin4 (H4a.at hin4 rfl) (g := (mkF m 12 #[.val (.ref cs), .val (.int (1 : Int32)), .val (.ref bs), .val (.int (1 : Int32)), .val (.int (2 : Int32)), .val (.int (1 : Int32)), .val (.int (own_ch u0))] [(.int (1 : Int32)), (.ref cs)])) rfl rfl (hb hby d8_12) _ kz) ?_
    refine Go.of (fun _ kz => XS.istore X3.here hx rfl (hb hby d8_13) rfl (l' := #[.val (.ref cs), .val (.int (1 : Int32)), .val (.ref bs), .val (.int (1 : Int32)), .val (.int (2 : Int32)), .val (.int (1 : Int32)), .val (.int (own_ch u1))]) rfl (XS.iload X3.here hx rfl (hb hby d8_15) rfl (XS.sipush X3.here hx rfl (hb hby d8_17) kz))) ?_
    show Go _ _ _ _ _ T3 (mkF m 20 #[.val (.ref cs), .val (.int (1 : Int32)), .val (.ref bs), .val (.int (1 : Int32)), .val (.int (2 : Int32)), .val (.int (1 : Int32)), .val (.int (own_ch u1))] [(.int (255 : Int32)), (.int (own_ch u1))])
    by_cases hc20_5 : (255 : Int32) < (own_ch u1)
    · refine Go.of (fun _ kz => XS.icmpNo X3.here hx rfl (hb hby d8_20) rfl (tlt hc20_5).2.2.2 kz) ?_
      refine Go.of (fun _ kz => XS.iload X3.here hx rfl (hb hby d8_23) rfl kz) ?_
      refine Go.ret X3 (v := some (.int (1 : Int32))) (fun h => by rw [Bd.returns] at h; cases h) Bd.notSynchronized (fun fs hr => own_retI X3 hx Bd.returns (hb hby d8_25) hr) (by decide) (by decide) ?_
      show Q_rm_ci_2 Z _ _ _ _ _ _ h0 n0 _ T3.heap _
      rw [e3]
      exact ⟨_, rfl, N3, Kk3, Or.inr (Or.inr (⟨rfl, hc20_2, hc20_5⟩))⟩
    · refine Go.of (fun _ kz => XS.icmpYes X3.here hx rfl (pc0 := 20) (pc' := 26) rfl (hb hby d8_20) rfl (flt hc20_5).2.2.2 (by decide) (by decide) kz) ?_
      refine Go.of (fun _ kz => XS.aloadN X3.here hx rfl (hb hby d8_26) rfl rfl (XS.iloadN X3.here hx rfl (hb hby d8_27) rfl (XS.iload X3.here hx rfl (hb hby d8_28) rfl (XS.i2b X3.here hx rfl (hb hby d8_30) rfl kz)))) ?_
      obtain ⟨cl6a, Ar6a, q6a, S6a, N6a, H6a, G6a⟩ := id V3_bs
      have hin6 := inb_of S6a (j := (1 : Int32)) ⟨by decide, by decide⟩
      obtain ⟨T6, h6, X6, e6, W6, st6⟩ := stB X3 hx hZ e3 Ar6a (j := (1 : Int32)) hin6 (g := (mkF m 31 #[.val (.ref cs), .val (.int (1 : Int32)), .val (.ref bs), .val (.int (1 : Int32)), .val (.int (2 : Int32)), .val (.int (1 : Int32)), .val (.int (own_ch u1))] [(.int ((own_lo u1).toInt32)), (.int (1 : Int32)), (.ref bs)])) rfl rfl (hb hby d8_31)
      rw [own_narb (own_lo u1)] at W6
      have V6_bs : Arv Z h6 bs kb .byte (2 : Int32) [(.int ((own_lo u0).toInt32)), (.int ((own_lo u1).toInt32))] (.int (0 : Int32)) := Arv.set Ar6a q6a S6a N6a H6a G6a (own_fitb _) W6 1 rfl (Nat.le_of_ble_eq_true rfl)
      have f6_Arv_cs := f3_Arv_cs.other W6 hne
      have O6 := O3.wr W6 ge_bs
      have Kk6 := Kk3.wr W6 (Or.inl (List.mem_singleton.mpr rfl))
      have N6 := Fr.snoc X6 N3 ge_bs
      refine Go.of (fun _ kz => st6 _ kz) ?_
      refine Go.of (fun _ kz => XS.iinc X6.here hx rfl (hb hby d8_32) rfl (l' := #[.val (.ref cs), .val (.int (2 : Int32)), .val (.ref bs), .val (.int (1 : Int32)), .val (.int (2 : Int32)), .val (.int (1 : Int32)), .val (.int (own_ch u1))]) rfl (XS.iinc X6.here hx rfl (hb hby d8_35) rfl (l' := #[.val (.ref cs), .val (.int (2 : Int32)), .val (.ref bs), .val (.int (2 : Int32)), .val (.int (2 : Int32)), .val (.int (1 : Int32)), .val (.int (own_ch u1))]) rfl (XS.iinc X6.here hx rfl (hb hby d8_38) rfl (l' := #[.val (.ref cs), .val (.int (2 : Int32)), .val (.ref bs), .val (.int (2 : Int32)), .val (.int (2 : Int32)), .val (.int (2 : Int32)), .val (.int (own_ch u1))]) rfl (XS.goto X6.here hx rfl (pc0 := 41) (pc' := 3) rfl (hb hby d8_41) (by decide) (by decide) (XS.iload X6.here hx rfl (hb hby d8_3) rfl (XS.iload X6.here hx rfl (hb hby d8_5) rfl kz)))))) ?_
      show Go _ _ _ _ _ T6 (mkF m 7 #[.val (.ref cs), .val (.int (2 : Int32)), .val (.ref bs), .val (.int (2 : Int32)), .val (.int (2 : Int32)), .val (.int (2 : Int32)), .val (.int (own_ch u1))] [(.int (2 : Int32)), (.int (2 : Int32))])
      refine Go.of (fun _ kz => XS.icmpYes X6.here hx rfl (pc0 := 7) (pc' := 44) rfl (hb hby d8_7) rfl (flt (by decide : ¬ (2 : Int32) < (2 : Int32))).2.1 (by decide) (by decide) kz) ?_
      refine Go.of (fun _ kz => XS.iload X6.here hx rfl (hb hby d8_44) rfl kz) ?_
      refine Go.ret X6 (v := some (.int (2 : Int32))) (fun h => by rw [Bd.returns] at h; cases h) Bd.notSynchronized (fun fs hr => own_retI X6 hx Bd.returns (hb hby d8_46) hr) (by decide) (by decide) ?_
      show Q_rm_ci_2 Z _ _ _ _ _ _ h0 n0 _ T6.heap _
      rw [e6]
      exact ⟨_, rfl, N6, Kk6, Or.inl ⟨rfl, ⟨hc20_2, hc20_5⟩, V6_bs⟩⟩

theorem ef_rm_nbl_2 (m : MethodId) (x0 : Int32) : entryFrame m #[(.int x0)] 1 = mkF m 0 #[.val (.int x0)] [] := by first | (simp [entryFrame, mkF, argsToLocals, Value.category]; done) | rfl
def Q_rm_nbl_2 (Z : State)  (h0 : Heap) (n0 : Nat) (v : Option Value) (h : Heap) (L : List Loc) : Prop := v = some (.int (4 : Int32)) ∧ Fr n0 L ∧ h = h0
set_option maxRecDepth 65536 in
set_option maxHeartbeats 40000000 in
theorem rm_nbl_2 (l : Launch) (Z : State) (a0 : Array Value) (hw : ∀ d ∈ tables_1, d.before a0 Z = true) (wz : List Jvm.Cond)  (h0 : Heap) (n0 : Nat) (O0 : Old Z n0 h0) :
    MetFree l y_14 (head1 (Jvm.Cond.code y_14 jdk_52_method_3_code 1 (some .int) :: wz) ({ frames := 0, cells := 0, slots := 0, locals := 0 } : Room)) (fun aZ UZ => aZ = #[(.int (2 : Int32))] ∧ Z.Warmed39 UZ.vm ∧ UZ.heap = h0) (fun _ _ _ _ _ => True) (fun _ UZ oZ UY => ∃ vZ LZ, oZ = .returned vZ ∧ Q_rm_nbl_2 Z  h0 n0 vZ UY.heap LZ ∧ FrameEnd UZ oZ UY LZ ({ frames := 0, cells := 0, slots := 0, locals := 0 } : Room).cells ({ frames := 0, cells := 0, slots := 0, locals := 0 } : Room).slots) := by
  refine MetFree.of_bodySF (plainFor_of_name pn_19) hisR ?_
  intro p e s m args below meth c s₁ Bd hml0 hP hK
  obtain ⟨rfl, hZ, hh⟩ := hP
  have hx := Bd.exec
  have hby := Bd.bytes
  have hml : c.maxLocals = 1 := hml0
  have hown : s.vm.findClass "java/lang/StringUTF16" = some m.cls := findClass_of_methodNamed Bd.named
  have hnm := (name_of_methodNamed Bd.named Bd.method).1
  have X0 : Stand p l e ({ frames := 0, cells := 0, slots := 0, locals := 0 } : Room) s m #[(.int (2 : Int32))] below meth c s₁ [] 0 0 := Stand.of_body Bd
  have e0 : s₁.heap = h0 := by rw [← hh, Bd.state]; rfl
  have N0 := Fr.nil n0
  have Z0 : n0 ≤ h0.size := O0.1 ▸ O0.2.1
  have K0 := Keep.refl h0 []
  show Go p e below (fun oW tW LW => FrameEnd s oW tW LW ({ frames := 0, cells := 0, slots := 0, locals := 0 } : Room).cells ({ frames := 0, cells := 0, slots := 0, locals := 0 } : Room).slots) (Q_rm_nbl_2 Z  h0 n0) s₁ (entryFrame m #[(.int (2 : Int32))] 1)
  refine Go.of (fun t kz => castTop (ef_rm_nbl_2 m (2 : Int32)) kz) ?_
  show Go _ _ _ _ _ s₁ (mkF m 0 #[.val (.int (2 : Int32))] [])
  refine Go.of (fun _ kz => XS.iloadN X0.here hx rfl (hb hby d19_0) rfl kz) ?_
  refine Go.of (fun _ kz => XS.ifYes X0.here hx rfl (pc0 := 1) (pc' := 12) rfl (hb hby d19_1) rfl ((if0 _ _).trans (flt (by decide : ¬ (2 : Int32) < (0 : Int32))).2.1) (by decide) (by decide) kz) ?_
  refine Go.of (fun _ kz => XS.iloadN X0.here hx rfl (hb hby d19_12) rfl (X0.ldcInt hx hown (mvT hZ (w85 hw)) (g := (mkF m 13 #[.val (.int (2 : Int32))] [(.int (2 : Int32))])) rfl (hb hby d19_13) _ kz)) ?_
  refine Go.of (fun _ kz => XS.icmpYes X0.here hx rfl (pc0 := 15) (pc' := 55) rfl (hb hby d19_15) rfl (tlt (by decide : (2 : Int32) < (1073741823 : Int32))).1 (by decide) (by decide) kz) ?_
  refine Go.of (fun _ kz => XS.iloadN X0.here hx rfl (hb hby d19_55) rfl (XS.iconst X0.here hx rfl (hb hby d19_56) (XS.ishl X0.here hx rfl (hb hby d19_57) rfl kz))) ?_
  show Go _ _ _ _ _ s₁ (mkF m 58 #[.val (.int (2 : Int32))] [(.int ((2 : Int32) <<< ((1 : Int32) &&& 31)))])
  rw [(by decide : ((2 : Int32) <<< ((1 : Int32) &&& 31)) = (4 : Int32))]
  show Go _ _ _ _ _ s₁ (mkF m 58 #[.val (.int (2 : Int32))] [(.int (4 : Int32))])
  refine Go.ret X0 (v := some (.int (4 : Int32))) (fun h => by rw [Bd.returns] at h; cases h) Bd.notSynchronized (fun fs hr => own_retI X0 hx Bd.returns (hb hby d19_58) hr) (by decide) (by decide) ?_
  show Q_rm_nbl_2 Z  h0 n0 _ s₁.heap _
  rw [e0]
  exact ⟨rfl, N0, rfl⟩

theorem ef_rm_nbf_2 (m : MethodId) (x0 : Int32) : entryFrame m #[(.int x0)] 1 = mkF m 0 #[.val (.int x0)] [] := by first | (simp [entryFrame, mkF, argsToLocals, Value.category]; done) | rfl
def Q_rm_nbf_2 (Z : State)  (h0 : Heap) (n0 : Nat) (v : Option Value) (h : Heap) (L : List Loc) : Prop := ∃ (b : Addr) (kb : ClassId), v = some (.ref b) ∧ Fr n0 L ∧ Keep h0 h [] ∧ h0.size ≤ b ∧ Arv Z h b kb .byte (4 : Int32) [(.int (0 : Int32)), (.int (0 : Int32)), (.int (0 : Int32)), (.int (0 : Int32))] (.int (0 : Int32))
set_option maxRecDepth 65536 in
set_option maxHeartbeats 40000000 in
theorem rm_nbf_2 (l : Launch) (Z : State) (a0 : Array Value) (hw : ∀ d ∈ tables_1, d.before a0 Z = true) (wz : List Jvm.Cond)  (h0 : Heap) (n0 : Nat) (O0 : Old Z n0 h0) :
    MetFree l y_15 (head1 (Jvm.Cond.code y_15 jdk_52_method_2_code 1 (some (.array .byte)) :: wz) ({ frames := 1, cells := 1, slots := 4, locals := 12 } : Room)) (fun aZ UZ => aZ = #[(.int (2 : Int32))] ∧ Z.Warmed39 UZ.vm ∧ UZ.heap = h0) (fun _ _ _ _ _ => True) (fun _ UZ oZ UY => ∃ vZ LZ, oZ = .returned vZ ∧ Q_rm_nbf_2 Z  h0 n0 vZ UY.heap LZ ∧ FrameEnd UZ oZ UY LZ ({ frames := 1, cells := 1, slots := 4, locals := 12 } : Room).cells ({ frames := 1, cells := 1, slots := 4, locals := 12 } : Room).slots) := by
  refine MetFree.of_bodySF (plainFor_of_name pn_18) hisR ?_
  intro p e s m args below meth c s₁ Bd hml0 hP hK
  obtain ⟨rfl, hZ, hh⟩ := hP
  have hx := Bd.exec
  have hby := Bd.bytes
  have hml : c.maxLocals = 1 := hml0
  have hown : s.vm.findClass "java/lang/StringUTF16" = some m.cls := findClass_of_methodNamed Bd.named
  have hnm := (name_of_methodNamed Bd.named Bd.method).1
  have X0 : Stand p l e ({ frames := 1, cells := 1, slots := 4, locals := 12 } : Room) s m #[(.int (2 : Int32))] below meth c s₁ [] 0 0 := Stand.of_body Bd
  have e0 : s₁.heap = h0 := by rw [← hh, Bd.state]; rfl
  have N0 := Fr.nil n0
  have Z0 : n0 ≤ h0.size := O0.1 ▸ O0.2.1
  have K0 := Keep.refl h0 []
  show Go p e below (fun oW tW LW => FrameEnd s oW tW LW ({ frames := 1, cells := 1, slots := 4, locals := 12 } : Room).cells ({ frames := 1, cells := 1, slots := 4, locals := 12 } : Room).slots) (Q_rm_nbf_2 Z  h0 n0) s₁ (entryFrame m #[(.int (2 : Int32))] 1)
  refine Go.of (fun t kz => castTop (ef_rm_nbf_2 m (2 : Int32)) kz) ?_
  show Go _ _ _ _ _ s₁ (mkF m 0 #[.val (.int (2 : Int32))] [])
  refine Go.of (fun _ kz => XS.iloadN X0.here hx rfl (hb hby d18_0) rfl kz) ?_
  show Go _ _ _ _ _ s₁ (mkF m 1 #[.val (.int (2 : Int32))] [(.int (2 : Int32))])
  refine Go.callS X0 hx hZ hown (y := y_14) (w82 hw) (w83 hw) (w40 hw) (w84 hw) (by decide) (rm_nbl_2 l Z a0 hw [] h0 n0 O0) e0 0 (by decide) (by decide) (by rw [hml]; rfl) (argsL := [(.int (2 : Int32))]) (rest := []) (lenOf pd_7 rfl) rfl rfl (Nat.le_of_eq rfl) (hb hby d18_1) (c2 := 0) (s2 := 0) rfl rfl (by decide) (by decide) fun v1 T1 Lc1 L1 X1 l1 hQ1 => ?_
  obtain ⟨rfl, N1q, e1⟩ := hQ1
  have N1 : Fr n0 L1 := by rw [l1]; exact Fr.app N0 N1q
  obtain ⟨T2, h2, k2, X2, e2, E2, A2, st2⟩ := newP (aty := .byte) X1 hx hZ (w21 hw) e1 (g := (mkF m 4 #[.val (.int (2 : Int32))] [(.int (4 : Int32))])) rfl (hb hby d18_4) rfl (by decide) (cap := 4) (by decide) (by decide) (by decide) (by decide)
  obtain ⟨b2, g2⟩ : ∃ z, z = h0.size := ⟨_, rfl⟩
  rw [← g2] at A2 st2
  have ge_b2 : n0 ≤ b2 := Nat.le_trans (O0.1 ▸ O0.2.1) (Nat.le_of_eq g2.symm)
  have hsz_b2 := Nat.le_of_eq g2.symm
  have sz_b2 : h0.size ≤ b2 := Nat.le_trans (Keep.refl h0 []).1 (Nat.le_of_eq g2.symm)
  have O2 := O0.ext E2
  have Kk2 := (Keep.refl h0 []).ext E2
  have V_b2 : Arv Z h2 b2 k2 .byte (4 : Int32) [(.int (0 : Int32)), (.int (0 : Int32)), (.int (0 : Int32)), (.int (0 : Int32))] (.int (0 : Int32)) := (Arv.new A2 (by decide)).pad (pad_rep [] (.int (0 : Int32)) 4)
  refine Go.of (fun _ kz => st2 _ kz) ?_
  refine Go.ret X2 (v := some (.ref b2)) (fun h => by rw [Bd.returns] at h; cases h) Bd.notSynchronized (fun fs hr => retOut X2 hx Bd.returns rfl (Or.inr (Or.inr (Or.inr (Or.inr ⟨rfl, rfl, rfl⟩)))) (hb hby d18_6) hr) (by decide) (by decide) ?_
  show Q_rm_nbf_2 Z  h0 n0 _ T2.heap _
  rw [e2]
  exact ⟨_, _, rfl, N1, Kk2, sz_b2, V_b2⟩

theorem ef_rm_tob_2 (m : MethodId) (x0 : Addr) (x1 : Int32) (x2 : Int32) : entryFrame m #[(.ref x0), (.int x1), (.int x2)] 5 = mkF m 0 #[.val (.ref x0), .val (.int x1), .val (.int x2), .unset, .unset] [] := by first | (simp [entryFrame, mkF, argsToLocals, Value.category]; done) | rfl
def Q_rm_tob_2 (Z : State) (cs : Addr) (kc : ClassId) (u0 : UInt16) (u1 : UInt16) (h0 : Heap) (n0 : Nat) (v : Option Value) (h : Heap) (L : List Loc) : Prop := ∃ (b : Addr) (kb : ClassId), v = some (.ref b) ∧ Fr n0 L ∧ Keep h0 h [] ∧ h0.size ≤ b ∧ Arv Z h b kb .byte (4 : Int32) [(.int ((own_lo0 u0).toInt32)), (.int ((own_hi8 u0).toInt32)), (.int ((own_lo0 u1).toInt32)), (.int ((own_hi8 u1).toInt32))] (.int (0 : Int32))
set_option maxRecDepth 65536 in
set_option maxHeartbeats 40000000 in
theorem rm_tob_2 (l : Launch) (Z : State) (a0 : Array Value) (hw : ∀ d ∈ tables_1, d.before a0 Z = true) (wz : List Jvm.Cond) (cs : Addr) (kc : ClassId) (u0 : UInt16) (u1 : UInt16) (h0 : Heap) (n0 : Nat) (O0 : Old Z n0 h0) (Vc : Arv Z h0 cs kc .char (2 : Int32) [(.int (own_ch u0)), (.int (own_ch u1))] (.int (0 : Int32))) (Sas : Sta Z Z.heap "java/lang/StringUTF16" "$assertionsDisabled" "Z" (.int (1 : Int32))) (Shi : Sta Z Z.heap "java/lang/StringUTF16" "HI_BYTE_SHIFT" "I" (.int (0 : Int32))) (Slo : Sta Z Z.heap "java/lang/StringUTF16" "LO_BYTE_SHIFT" "I" (.int (8 : Int32))) :
    MetFree l y_16 (head1 (Jvm.Cond.code y_16 jdk_52_method_14_code 5 (some (.array .byte)) :: wz) ({ frames := 2, cells := 1, slots := 4, locals := 24 } : Room)) (fun aZ UZ => aZ = #[(.ref cs), (.int (0 : Int32)), (.int (2 : Int32))] ∧ Z.Warmed39 UZ.vm ∧ UZ.heap = h0) (fun _ _ _ _ _ => True) (fun _ UZ oZ UY => ∃ vZ LZ, oZ = .returned vZ ∧ Q_rm_tob_2 Z cs kc u0 u1 h0 n0 vZ UY.heap LZ ∧ FrameEnd UZ oZ UY LZ ({ frames := 2, cells := 1, slots := 4, locals := 24 } : Room).cells ({ frames := 2, cells := 1, slots := 4, locals := 24 } : Room).slots) := by
  refine MetFree.of_bodySF (plainFor_of_name pn_17) hisR ?_
  intro p e s m args below meth c s₁ Bd hml0 hP hK
  obtain ⟨rfl, hZ, hh⟩ := hP
  have hx := Bd.exec
  have hby := Bd.bytes
  have hml : c.maxLocals = 5 := hml0
  have hown : s.vm.findClass "java/lang/StringUTF16" = some m.cls := findClass_of_methodNamed Bd.named
  have hnm := (name_of_methodNamed Bd.named Bd.method).1
  have X0 : Stand p l e ({ frames := 2, cells := 1, slots := 4, locals := 24 } : Room) s m #[(.ref cs), (.int (0 : Int32)), (.int (2 : Int32))] below meth c s₁ [] 0 0 := Stand.of_body Bd
  have e0 : s₁.heap = h0 := by rw [← hh, Bd.state]; rfl
  have N0 := Fr.nil n0
  have Z0 : n0 ≤ h0.size := O0.1 ▸ O0.2.1
  have K0 := Keep.refl h0 []
  show Go p e below (fun oW tW LW => FrameEnd s oW tW LW ({ frames := 2, cells := 1, slots := 4, locals := 24 } : Room).cells ({ frames := 2, cells := 1, slots := 4, locals := 24 } : Room).slots) (Q_rm_tob_2 Z cs kc u0 u1 h0 n0) s₁ (entryFrame m #[(.ref cs), (.int (0 : Int32)), (.int (2 : Int32))] 5)
  refine Go.of (fun t kz => castTop (ef_rm_tob_2 m cs (0 : Int32) (2 : Int32)) kz) ?_
  show Go _ _ _ _ _ s₁ (mkF m 0 #[.val (.ref cs), .val (.int (0 : Int32)), .val (.int (2 : Int32)), .unset, .unset] [])
  refine Go.of (fun _ kz => XS.iloadN X0.here hx rfl (hb hby d17_0) rfl kz) ?_
  show Go _ _ _ _ _ s₁ (mkF m 1 #[.val (.ref cs), .val (.int (0 : Int32)), .val (.int (2 : Int32)), .unset, .unset] [(.int (2 : Int32))])
  refine Go.callS X0 hx hZ hown (y := y_15) (w79 hw) (w80 hw) (w40 hw) (w81 hw) (by decide) (rm_nbf_2 l Z a0 hw [] h0 n0 O0) e0 0 (by decide) (by decide) (by rw [hml]; rfl) (argsL := [(.int (2 : Int32))]) (rest := []) (lenOf pd_8 rfl) rfl rfl (Nat.le_of_eq rfl) (hb hby d17_1) (c2 := 1) (s2 := 4) rfl rfl (by decide) (by decide) fun v1 T1 Lc1 L1 X1 l1 hQ1 => ?_
  obtain ⟨b1, kb1, rfl, N1q, K1, hsz1, V1⟩ := hQ1
  have N1 : Fr n0 L1 := by rw [l1]; exact Fr.app N0 N1q
  have ge_b1 : n0 ≤ b1 := Nat.le_trans (O0.1 ▸ O0.2.1) hsz1
  have sz_b1 : h0.size ≤ b1 := Nat.le_trans (Keep.refl h0 []).1 hsz1
  have ne_cs_b1 : cs ≠ b1 := Nat.ne_of_lt (Nat.lt_of_lt_of_le Vc.lt hsz1)
  have f1_Arv_cs := Vc.keep K1 nin0
  have O1 := O0.keep K1 all0
  have Kk1 := (Keep.refl h0 []).trans K1 all0
  refine Go.of (fun _ kz => XS.astoreN X1.here hx rfl (hb hby d17_4) rfl rfl (l' := #[.val (.ref cs), .val (.int (0 : Int32)), .val (.int (2 : Int32)), .val (.ref b1), .unset]) rfl (XS.iconst X1.here hx rfl (hb hby d17_5) (XS.istore X1.here hx rfl (hb hby d17_6) rfl (l' := #[.val (.ref cs), .val (.int (0 : Int32)), .val (.int (2 : Int32)), .val (.ref b1), .val (.int (0 : Int32))]) rfl (XS.iload X1.here hx rfl (hb hby d17_8) rfl (XS.iloadN X1.here hx rfl (hb hby d17_10) rfl kz))))) ?_
  refine Go.of (fun _ kz => XS.icmpNo X1.here hx rfl (hb hby d17_11) rfl (tlt (by decide : (0 : Int32) < (2 : Int32))).2.1 kz) ?_
  show Go _ _ _ _ _ T1 (mkF m 14 #[.val (.ref cs), .val (.int (0 : Int32)), .val (.int (2 : Int32)), .val (.ref b1), .val (.int (0 : Int32))] [])
  refine Go.of (fun _ kz => XS.aloadN X1.here hx rfl (hb hby d17_14) rfl rfl (XS.iload X1.here hx rfl (hb hby d17_15) rfl (XS.aloadN X1.here hx rfl (hb hby d17_17) rfl rfl (XS.iloadN X1.here hx rfl (hb hby d17_18) rfl kz)))) ?_
  obtain ⟨cl2a, Ar2a, q2a, S2a, N2a, H2a, G2a⟩ := id f1_Arv_cs
  have hin2 := inb_of S2a (j := (0 : Int32)) ⟨by decide, by decide⟩
  refine Go.of (fun _ kz => X1.caload hx (j := (0 : Int32)) (v := (.int (own_ch u0))) Ar2a.1 (State.isArrayOf_alike hZ.alike Ar2a.2.1) Ar2a.2.2 hin2 (H2a.at hin2 rfl) (g := (mkF m 19 #[.val (.ref cs), .val (.int (0 : Int32)), .val (.int (2 : Int32)), .val (.ref b1), .val (.int (0 : Int32))] [(.int (0 : Int32)), (.ref cs), (.int (0 : Int32)), (.ref b1)])) rfl rfl (hb hby d17_19) _ kz) ?_
  show Go _ _ _ _ _ T1 (mkF m 20 #[.val (.ref cs), .val (.int (0 : Int32)), .val (.int (2 : Int32)), .val (.ref b1), .val (.int (0 : Int32))] [(.int (own_ch u0)), (.int (0 : Int32)), (.ref b1)])
  refine Go.callS X1 hx hZ hown (y := y_12) (w86 hw) (w87 hw) (w40 hw) (w88 hw) (by decide) (rm_put l Z a0 hw [] b1 (0 : Int32) (own_ch u0) kb1 (4 : Int32) [(.int (0 : Int32)), (.int (0 : Int32)), (.int (0 : Int32)), (.int (0 : Int32))] (own_lo0 u0) (own_hi8 u0) 0 T1.heap n0 O1 V1 Sas Shi Slo ge_b1 ⟨by decide, by decide⟩ ⟨by decide, by decide⟩ (by decide) (by decide) (Nat.le_of_ble_eq_true rfl) (Nat.le_of_ble_eq_true rfl) rfl rfl) rfl 0 (by decide) (by decide) (by rw [hml]; rfl) (argsL := [(.ref b1), (.int (0 : Int32)), (.int (own_ch u0))]) (rest := []) (lenOf pd_9 rfl) rfl rfl (Nat.le_of_eq rfl) (hb hby d17_20) (c2 := 1) (s2 := 4) rfl rfl (by decide) (by decide) fun v3 T3 Lc3 L3 X3 l3 hQ3 => ?_
  obtain ⟨rfl, N3q, K3, V3⟩ := hQ3
  have N3 : Fr n0 L3 := by rw [l3]; exact Fr.app N1 N3q
  have f3_Arv_cs := f1_Arv_cs.keep K3 (ninS ne_cs_b1 nin0)
  have O3 := O1.keep K3 (allS ge_b1 all0)
  have Kk3 := Kk1.trans K3 (allS (Or.inr sz_b1) all0)
  have V3c : Arv Z T3.heap b1 kb1 .byte (4 : Int32) [(.int ((own_lo0 u0).toInt32)), (.int ((own_hi8 u0).toInt32)), (.int (0 : Int32)), (.int (0 : Int32))] (.int (0 : Int32)) := V3
  refine Go.of (fun _ kz => XS.iinc X3.here hx rfl (hb hby d17_23) rfl (l' := #[.val (.ref cs), .val (.int (1 : Int32)), .val (.int (2 : Int32)), .val (.ref b1), .val (.int (0 : Int32))]) rfl (XS.iinc X3.here hx rfl (hb hby d17_26) rfl (l' := #[.val (.ref cs), .val (.int (1 : Int32)), .val (.int (2 : Int32)), .val (.ref b1), .val (.int (1 : Int32))]) rfl (XS.goto X3.here hx rfl (pc0 := 29) (pc' := 8) rfl (hb hby d17_29) (by decide) (by decide) (XS.iload X3.here hx rfl (hb hby d17_8) rfl (XS.iloadN X3.here hx rfl (hb hby d17_10) rfl kz))))) ?_
  refine Go.of (fun _ kz => XS.icmpNo X3.here hx rfl (hb hby d17_11) rfl (tlt (by decide : (1 : Int32) < (2 : Int32))).2.1 kz) ?_
  show Go _ _ _ _ _ T3 (mkF m 14 #[.val (.ref cs), .val (.int (1 : Int32)), .val (.int (2 : Int32)), .val (.ref b1), .val (.int (1 : Int32))] [])
  refine Go.of (fun _ kz => XS.aloadN X3.here hx rfl (hb hby d17_14) rfl rfl (XS.iload X3.here hx rfl (hb hby d17_15) rfl (XS.aloadN X3.here hx rfl (hb hby d17_17) rfl rfl (XS.iloadN X3.here hx rfl (hb hby d17_18) rfl kz)))) ?_
  obtain ⟨cl4a, Ar4a, q4a, S4a, N4a, H4a, G4a⟩ := id f3_Arv_cs
  have hin4 := inb_of S4a (j := (1 : Int32)) ⟨by decide, by decide⟩
  refine Go.of (fun _ kz => X3.caload hx (j := (1 : Int32)) (v := (.int (own_ch u1))) Ar4a.1 (State.isArrayOf_alike hZ.alike Ar4a.2.1) Ar4a.2.2 hin4 (H4a.at hin4 rfl) (g := (mkF m 19 #[.val (.ref cs), .val (.int (1 : Int32)), .val (.int (2 : Int32)), .val (.ref b1), .val (.int (1 : Int32))] [(.int (1 : Int32)), (.ref cs), (.int (1 : Int32)), (.ref b1)])) rfl rfl (hb hby d17_19) _ kz) ?_
  show Go _ _ _ _ _ T3 (mkF m 20 #[.val (.ref cs), .val (.int (1 : Int32)), .val (.int (2 : Int32)), .val (.ref b1), .val (.int (1 : Int32))] [(.int (own_ch u1)), (.int (1 : Int32)), (.ref b1)])
  refine Go.callS X3 hx hZ hown (y := y_12) (w86 hw) (w87 hw) (w40 hw) (w88 hw) (by decide) (rm_put l Z a0 hw [] b1 (1 : Int32) (own_ch u1) kb1 (4 : Int32) [(.int ((own_lo0 u0).toInt32)), (.int ((own_hi8 u0).toInt32)), (.int (0 : Int32)), (.int (0 : Int32))] (own_lo0 u1) (own_hi8 u1) 2 T3.heap n0 O3 V3c Sas Shi Slo ge_b1 ⟨by decide, by decide⟩ ⟨by decide, by decide⟩ (by decide) (by decide) (Nat.le_of_ble_eq_true rfl) (Nat.le_of_ble_eq_true rfl) rfl rfl) rfl 0 (by decide) (by decide) (by rw [hml]; rfl) (argsL := [(.ref b1), (.int (1 : Int32)), (.int (own_ch u1))]) (rest := []) (lenOf pd_9 rfl) rfl rfl (Nat.le_of_eq rfl) (hb hby d17_20) (c2 := 1) (s2 := 4) rfl rfl (by decide) (by decide) fun v5 T5 Lc5 L5 X5 l5 hQ5 => ?_
  obtain ⟨rfl, N5q, K5, V5⟩ := hQ5
  have N5 : Fr n0 L5 := by rw [l5]; exact Fr.app N3 N5q
  have f5_Arv_cs := f3_Arv_cs.keep K5 (ninS ne_cs_b1 nin0)
  have O5 := O3.keep K5 (allS ge_b1 all0)
  have Kk5 := Kk3.trans K5 (allS (Or.inr sz_b1) all0)
  have V5c : Arv Z T5.heap b1 kb1 .byte (4 : Int32) [(.int ((own_lo0 u0).toInt32)), (.int ((own_hi8 u0).toInt32)), (.int ((own_lo0 u1).toInt32)), (.int ((own_hi8 u1).toInt32))] (.int (0 : Int32)) := V5
  refine Go.of (fun _ kz => XS.iinc X5.here hx rfl (hb hby d17_23) rfl (l' := #[.val (.ref cs), .val (.int (2 : Int32)), .val (.int (2 : Int32)), .val (.ref b1), .val (.int (1 : Int32))]) rfl (XS.iinc X5.here hx rfl (hb hby d17_26) rfl (l' := #[.val (.ref cs), .val (.int (2 : Int32)), .val (.int (2 : Int32)), .val (.ref b1), .val (.int (2 : Int32))]) rfl (XS.goto X5.here hx rfl (pc0 := 29) (pc' := 8) rfl (hb hby d17_29) (by decide) (by decide) (XS.iload X5.here hx rfl (hb hby d17_8) rfl (XS.iloadN X5.here hx rfl (hb hby d17_10) rfl kz))))) ?_
  refine Go.of (fun _ kz => XS.icmpYes X5.here hx rfl (pc0 := 11) (pc' := 32) rfl (hb hby d17_11) rfl (flt (by decide : ¬ (2 : Int32) < (2 : Int32))).2.1 (by decide) (by decide) kz) ?_
  show Go _ _ _ _ _ T5 (mkF m 32 #[.val (.ref cs), .val (.int (2 : Int32)), .val (.int (2 : Int32)), .val (.ref b1), .val (.int (2 : Int32))] [])
  refine Go.of (fun _ kz => XS.aloadN X5.here hx rfl (hb hby d17_32) rfl rfl kz) ?_
  refine Go.ret X5 (v := some (.ref b1)) (fun h => by rw [Bd.returns] at h; cases h) Bd.notSynchronized (fun fs hr => retOut X5 hx Bd.returns rfl (Or.inr (Or.inr (Or.inr (Or.inr ⟨rfl, rfl, rfl⟩)))) (hb hby d17_33) hr) (by decide) (by decide) ?_
  show Q_rm_tob_2 Z _ _ _ _ h0 n0 _ T5.heap _
  exact ⟨_, _, rfl, N5, Kk5, sz_b1, V5c⟩

theorem ef_rm_co_2 (m : MethodId) (x0 : Addr) (x1 : Int32) (x2 : Int32) : entryFrame m #[(.ref x0), (.int x1), (.int x2)] 6 = mkF m 0 #[.val (.ref x0), .val (.int x1), .val (.int x2), .unset, .unset, .unset] [] := by first | (simp [entryFrame, mkF, argsToLocals, Value.category]; done) | rfl
def Q_rm_co_2 (Z : State) (cs : Addr) (kc : ClassId) (u0 : UInt16) (u1 : UInt16) (h0 : Heap) (n0 : Nat) (v : Option Value) (h : Heap) (L : List Loc) : Prop := ∃ (b : Addr) (kb : ClassId) (z : Int32) (vs : List Value), v = some (.ref b) ∧ Fr n0 L ∧ Keep h0 h [] ∧ h0.size ≤ b ∧ Arv Z h b kb .byte z vs (.int (0 : Int32)) ∧ ((z = (2 : Int32) ∧ vs = [(.int ((own_lo u0).toInt32)), (.int ((own_lo u1).toInt32))] ∧ (¬ (255 : Int32) < (own_ch u0) ∧ ¬ (255 : Int32) < (own_ch u1))) ∨ (z = (4 : Int32) ∧ vs = [(.int ((own_lo0 u0).toInt32)), (.int ((own_hi8 u0).toInt32)), (.int ((own_lo0 u1).toInt32)), (.int ((own_hi8 u1).toInt32))]))
set_option maxRecDepth 65536 in
set_option maxHeartbeats 40000000 in
theorem rm_co_2 (l : Launch) (Z : State) (a0 : Array Value) (hw : ∀ d ∈ tables_1, d.before a0 Z = true) (wz : List Jvm.Cond) (cs : Addr) (kc : ClassId) (u0 : UInt16) (u1 : UInt16) (h0 : Heap) (n0 : Nat) (O0 : Old Z n0 h0) (Vc : Arv Z h0 cs kc .char (2 : Int32) [(.int (own_ch u0)), (.int (own_ch u1))] (.int (0 : Int32))) (Sas : Sta Z Z.heap "java/lang/StringUTF16" "$assertionsDisabled" "Z" (.int (1 : Int32))) (Shi : Sta Z Z.heap "java/lang/StringUTF16" "HI_BYTE_SHIFT" "I" (.int (0 : Int32))) (Slo : Sta Z Z.heap "java/lang/StringUTF16" "LO_BYTE_SHIFT" "I" (.int (8 : Int32))) :
    MetFree l y_17 (head1 (Jvm.Cond.code y_17 jdk_52_method_16_code 6 (some (.array .byte)) :: wz) ({ frames := 3, cells := 2, slots := 6, locals := 40 } : Room)) (fun aZ UZ => aZ = #[(.ref cs), (.int (0 : Int32)), (.int (2 : Int32))] ∧ Z.Warmed39 UZ.vm ∧ UZ.heap = h0) (fun _ _ _ _ _ => True) (fun _ UZ oZ UY => ∃ vZ LZ, oZ = .returned vZ ∧ Q_rm_co_2 Z cs kc u0 u1 h0 n0 vZ UY.heap LZ ∧ FrameEnd UZ oZ UY LZ ({ frames := 3, cells := 2, slots := 6, locals := 40 } : Room).cells ({ frames := 3, cells := 2, slots := 6, locals := 40 } : Room).slots) := by
  refine MetFree.of_bodySF (plainFor_of_name pn_7) hisR ?_
  intro p e s m args below meth c s₁ Bd hml0 hP hK
  obtain ⟨rfl, hZ, hh⟩ := hP
  have hx := Bd.exec
  have hby := Bd.bytes
  have hml : c.maxLocals = 6 := hml0
  have hown : s.vm.findClass "java/lang/StringUTF16" = some m.cls := findClass_of_methodNamed Bd.named
  have hnm := (name_of_methodNamed Bd.named Bd.method).1
  have X0 : Stand p l e ({ frames := 3, cells := 2, slots := 6, locals := 40 } : Room) s m #[(.ref cs), (.int (0 : Int32)), (.int (2 : Int32))] below meth c s₁ [] 0 0 := Stand.of_body Bd
  have e0 : s₁.heap = h0 := by rw [← hh, Bd.state]; rfl
  have N0 := Fr.nil n0
  have Z0 : n0 ≤ h0.size := O0.1 ▸ O0.2.1
  have K0 := Keep.refl h0 []
  show Go p e below (fun oW tW LW => FrameEnd s oW tW LW ({ frames := 3, cells := 2, slots := 6, locals := 40 } : Room).cells ({ frames := 3, cells := 2, slots := 6, locals := 40 } : Room).slots) (Q_rm_co_2 Z cs kc u0 u1 h0 n0) s₁ (entryFrame m #[(.ref cs), (.int (0 : Int32)), (.int (2 : Int32))] 6)
  refine Go.of (fun t kz => castTop (ef_rm_co_2 m cs (0 : Int32) (2 : Int32)) kz) ?_
  show Go _ _ _ _ _ s₁ (mkF m 0 #[.val (.ref cs), .val (.int (0 : Int32)), .val (.int (2 : Int32)), .unset, .unset, .unset] [])
  refine Go.of (fun _ kz => XS.iloadN X0.here hx rfl (hb hby d7_0) rfl kz) ?_
  obtain ⟨T1, h1, k1, X1, e1, E1, A1, st1⟩ := newP (aty := .byte) X0 hx hZ (w21 hw) e0 (g := (mkF m 1 #[.val (.ref cs), .val (.int (0 : Int32)), .val (.int (2 : Int32)), .unset, .unset, .unset] [(.int (2 : Int32))])) rfl (hb hby d7_1) rfl (by decide) (cap := 2) (by decide) (by decide) (by decide) (by decide)
  obtain ⟨b1, g1⟩ : ∃ z, z = h0.size := ⟨_, rfl⟩
  rw [← g1] at A1 st1
  have ne_cs_b1 : cs ≠ b1 := Nat.ne_of_lt (Nat.lt_of_lt_of_le Vc.lt (Nat.le_of_eq g1.symm))
  have ge_b1 : n0 ≤ b1 := Nat.le_trans (O0.1 ▸ O0.2.1) (Nat.le_of_eq g1.symm)
  have hsz_b1 := Nat.le_of_eq g1.symm
  have sz_b1 : h0.size ≤ b1 := Nat.le_trans (Keep.refl h0 []).1 (Nat.le_of_eq g1.symm)
  have f1_Arv_cs := Vc.ext E1
  have O1 := O0.ext E1
  have Kk1 := (Keep.refl h0 []).ext E1
  have V_b1 : Arv Z h1 b1 k1 .byte (2 : Int32) [(.int (0 : Int32)), (.int (0 : Int32))] (.int (0 : Int32)) := (Arv.new A1 (by decide)).pad (pad_rep [] (.int (0 : Int32)) 2)
  refine Go.of (fun _ kz => st1 _ kz) ?_
  refine Go.of (fun _ kz => XS.astoreN X1.here hx rfl (hb hby d7_3) rfl rfl (l' := #[.val (.ref cs), .val (.int (0 : Int32)), .val (.int (2 : Int32)), .val (.ref b1), .unset, .unset]) rfl (XS.aloadN X1.here hx rfl (hb hby d7_4) rfl rfl (XS.iloadN X1.here hx rfl (hb hby d7_5) rfl (XS.aloadN X1.here hx rfl (hb hby d7_6) rfl rfl (XS.iconst X1.here hx rfl (hb hby d7_7) (XS.iloadN X1.here hx rfl (hb hby d7_8) rfl kz)))))) ?_
  show Go _ _ _ _ _ T1 (mkF m 9 #[.val (.ref cs), .val (.int (0 : Int32)), .val (.int (2 : Int32)), .val (.ref b1), .unset, .unset] [(.int (2 : Int32)), (.int (0 : Int32)), (.ref b1), (.int (0 : Int32)), (.ref cs)])
  refine Go.callS X1 hx hZ hown (y := y_13) (w42 hw) (w43 hw) (w40 hw) (w44 hw) (by decide) (rm_ci_2 l Z a0 hw [] cs b1 kc k1 u0 u1 h1 n0 O1 f1_Arv_cs V_b1 ne_cs_b1 ge_b1) e1 0 (by decide) (by decide) (by rw [hml]; rfl) (argsL := [(.ref cs), (.int (0 : Int32)), (.ref b1), (.int (0 : Int32)), (.int (2 : Int32))]) (rest := []) (lenOf pd_10 rfl) rfl rfl (Nat.le_of_eq rfl) (hb hby d7_9) (c2 := 1) (s2 := 2) rfl rfl (by decide) (by decide) fun v2 T2 Lc2 L2 X2 l2 hQ2 => ?_
  obtain ⟨k2, rfl, N2q, K2, hD2⟩ := hQ2
  have N2 : Fr n0 L2 := by rw [l2]; exact Fr.app N0 N2q
  have f2_Arv_cs := f1_Arv_cs.keep K2 (ninS ne_cs_b1 nin0)
  have O2 := O1.keep K2 (allS ge_b1 all0)
  have Kk2 := Kk1.trans K2 (allS (Or.inr sz_b1) all0)
  show Go _ _ _ _ _ T2 (mkF m 12 #[.val (.ref cs), .val (.int (0 : Int32)), .val (.int (2 : Int32)), .val (.ref b1), .unset, .unset] [(.int k2)])
  rcases hD2 with ⟨rfl, hlat2, V2b⟩ | hf2
  · show Go _ _ _ _ _ T2 (mkF m 12 #[.val (.ref cs), .val (.int (0 : Int32)), .val (.int (2 : Int32)), .val (.ref b1), .unset, .unset] [(.int (2 : Int32))])
    refine Go.of (fun _ kz => XS.istore X2.here hx rfl (hb hby d7_12) rfl (l' := #[.val (.ref cs), .val (.int (0 : Int32)), .val (.int (2 : Int32)), .val (.ref b1), .val (.int (2 : Int32)), .unset]) rfl (XS.iload X2.here hx rfl (hb hby d7_14) rfl (XS.iloadN X2.here hx rfl (hb hby d7_16) rfl kz))) ?_
    refine Go.of (fun _ kz => XS.icmpYes X2.here hx rfl (pc0 := 17) (pc' := 57) rfl (hb hby d7_17) rfl (teq (by decide : (2 : Int32) = (2 : Int32))).1 (by decide) (by decide) kz) ?_
    refine Go.of (fun _ kz => XS.aloadN X2.here hx rfl (hb hby d7_57) rfl rfl kz) ?_
    refine Go.ret X2 (v := some (.ref b1)) (fun h => by rw [Bd.returns] at h; cases h) Bd.notSynchronized (fun fs hr => retOut X2 hx Bd.returns rfl (Or.inr (Or.inr (Or.inr (Or.inr ⟨rfl, rfl, rfl⟩)))) (hb hby d7_58) hr) (by decide) (by decide) ?_
    show Q_rm_co_2 Z _ _ _ _ h0 n0 _ T2.heap _
    exact ⟨_, _, _, _, rfl, N2, Kk2, sz_b1, V2b, Or.inl ⟨rfl, rfl, hlat2⟩⟩
  · show Go _ _ _ _ _ T2 (mkF m 12 #[.val (.ref cs), .val (.int (0 : Int32)), .val (.int (2 : Int32)), .val (.ref b1), .unset, .unset] [(.int k2)])
    refine Go.of (fun _ kz => XS.istore X2.here hx rfl (hb hby d7_12) rfl (l' := #[.val (.ref cs), .val (.int (0 : Int32)), .val (.int (2 : Int32)), .val (.ref b1), .val (.int k2), .unset]) rfl (XS.iload X2.here hx rfl (hb hby d7_14) rfl (XS.iloadN X2.here hx rfl (hb hby d7_16) rfl kz))) ?_
    refine Go.of (fun _ kz => XS.icmpNo X2.here hx rfl (hb hby d7_17) rfl (feq (by rcases hf2 with ⟨rfl, _⟩ | ⟨rfl, _⟩ <;> decide)).1 kz) ?_
    refine Go.of (fun _ kz => XS.aloadN X2.here hx rfl (hb hby d7_20) rfl rfl (XS.iloadN X2.here hx rfl (hb hby d7_21) rfl (XS.iloadN X2.here hx rfl (hb hby d7_22) rfl kz))) ?_
    show Go _ _ _ _ _ T2 (mkF m 23 #[.val (.ref cs), .val (.int (0 : Int32)), .val (.int (2 : Int32)), .val (.ref b1), .val (.int k2), .unset] [(.int (2 : Int32)), (.int (0 : Int32)), (.ref cs)])
    refine Go.callS X2 hx hZ hown (y := y_16) (w76 hw) (w77 hw) (w40 hw) (w78 hw) (by decide) (rm_tob_2 l Z a0 hw [] cs kc u0 u1 T2.heap n0 O2 f2_Arv_cs Sas Shi Slo) rfl 0 (by decide) (by decide) (by rw [hml]; rfl) (argsL := [(.ref cs), (.int (0 : Int32)), (.int (2 : Int32))]) (rest := []) (lenOf pd_11 rfl) rfl rfl (Nat.le_of_eq rfl) (hb hby d7_23) (c2 := 2) (s2 := 6) rfl rfl (by decide) (by decide) fun v3 T3 Lc3 L3 X3 l3 hQ3 => ?_
    obtain ⟨b3, kb3, rfl, N3q, K3, hsz3, V3⟩ := hQ3
    have N3 : Fr n0 L3 := by rw [l3]; exact Fr.app N2 N3q
    have ge_b3 : n0 ≤ b3 := Nat.le_trans (O2.1 ▸ O2.2.1) hsz3
    have sz_b3 : h0.size ≤ b3 := Nat.le_trans Kk2.1 hsz3
    have f3_Arv_cs := f2_Arv_cs.keep K3 nin0
    have O3 := O2.keep K3 all0
    have Kk3 := Kk2.trans K3 all0
    refine Go.of (fun _ kz => XS.astore X3.here hx rfl (hb hby d7_26) rfl rfl (l' := #[.val (.ref cs), .val (.int (0 : Int32)), .val (.int (2 : Int32)), .val (.ref b1), .val (.int k2), .val (.ref b3)]) rfl (XS.aload X3.here hx rfl (hb hby d7_28) rfl rfl (XS.iload X3.here hx rfl (hb hby d7_30) rfl kz))) ?_
    show Go _ _ _ _ _ T3 (mkF m 32 #[.val (.ref cs), .val (.int (0 : Int32)), .val (.int (2 : Int32)), .val (.ref b1), .val (.int k2), .val (.ref b3)] [(.int k2), (.ref b3)])
    obtain ⟨x0, x1, r, hj, hj1, hv0, hv1, hr, hbg⟩ : ∃ x0 x1 r : Int32, (¬ (k2 <<< ((1 : Int32) &&& 31)) < (0 : Int32) ∧ (k2 <<< ((1 : Int32) &&& 31)) < (4 : Int32)) ∧ (¬ ((k2 <<< ((1 : Int32) &&& 31)) + (1 : Int32)) < (0 : Int32) ∧ ((k2 <<< ((1 : Int32) &&& 31)) + (1 : Int32)) < (4 : Int32)) ∧ ([(.int ((own_lo0 u0).toInt32)), (.int ((own_hi8 u0).toInt32)), (.int ((own_lo0 u1).toInt32)), (.int ((own_hi8 u1).toInt32))] : List Value).getD ((k2 <<< ((1 : Int32) &&& 31))).toNatClampNeg (.int (0 : Int32)) = .int x0 ∧ ([(.int ((own_lo0 u0).toInt32)), (.int ((own_hi8 u0).toInt32)), (.int ((own_lo0 u1).toInt32)), (.int ((own_hi8 u1).toInt32))] : List Value).getD (((k2 <<< ((1 : Int32) &&& 31)) + (1 : Int32))).toNatClampNeg (.int (0 : Int32)) = .int x1 ∧ nar .char ((((x0 &&& (255 : Int32)) <<< ((0 : Int32) &&& 31)) ||| ((x1 &&& (255 : Int32)) <<< ((8 : Int32) &&& 31))).toUInt32.toUInt16.toUInt32.toInt32) = r ∧ (255 : Int32) < r := by
      rcases hf2 with ⟨rfl, hg⟩ | ⟨rfl, -, hg⟩
      · exact ⟨_, _, _, ⟨by decide, by decide⟩, ⟨by decide, by decide⟩, rfl, rfl, own_get u0, hg⟩
      · exact ⟨_, _, _, ⟨by decide, by decide⟩, ⟨by decide, by decide⟩, rfl, rfl, own_get u1, hg⟩
    refine Go.callS X3 hx hZ hown (y := y_7) (w92 hw) (w93 hw) (w40 hw) (w94 hw) (by decide) (rm_get l Z a0 hw [] b3 k2 kb3 (4 : Int32) [(.int ((own_lo0 u0).toInt32)), (.int ((own_hi8 u0).toInt32)), (.int ((own_lo0 u1).toInt32)), (.int ((own_hi8 u1).toInt32))] x0 x1 r T3.heap n0 O3 V3 Sas Shi Slo hj hj1 hv0 hv1 hr) rfl 0 (by decide) (by decide) (by rw [hml]; rfl) (argsL := [(.ref b3), (.int k2)]) (rest := []) (lenOf pd_5 rfl) rfl rfl (Nat.le_of_eq rfl) (hb hby d7_32) (c2 := 2) (s2 := 6) rfl rfl (by decide) (by decide) fun v4 T4 Lc4 L4 X4 l4 hQ4 => ?_
    obtain ⟨rfl, N4q, e4⟩ := hQ4
    have N4 : Fr n0 L4 := by rw [l4]; exact Fr.app N3 N4q
    refine Go.of (fun _ kz => XS.sipush X4.here hx rfl (hb hby d7_35) kz) ?_
    refine Go.of (fun _ kz => XS.icmpYes X4.here hx rfl (pc0 := 38) (pc' := 54) rfl (hb hby d7_38) rfl (tlt hbg).2.2.1 (by decide) (by decide) kz) ?_
    refine Go.of (fun _ kz => XS.aload X4.here hx rfl (hb hby d7_54) rfl rfl kz) ?_
    refine Go.ret X4 (v := some (.ref b3)) (fun h => by rw [Bd.returns] at h; cases h) Bd.notSynchronized (fun fs hr => retOut X4 hx Bd.returns rfl (Or.inr (Or.inr (Or.inr (Or.inr ⟨rfl, rfl, rfl⟩)))) (hb hby d7_56) hr) (by decide) (by decide) ?_
    show Q_rm_co_2 Z _ _ _ _ h0 n0 _ T4.heap _
    rw [e4]
    exact ⟨_, _, _, _, rfl, N4, Kk3, sz_b3, V3, Or.inr ⟨rfl, rfl⟩⟩

theorem ef_rm_cal_2_0 (m : MethodId) (x0 : Addr) (x1 : Int32) : entryFrame m #[(.ref x0), (.int x1)] 2 = mkF m 0 #[.val (.ref x0), .val (.int x1)] [] := by first | (simp [entryFrame, mkF, argsToLocals, Value.category]; done) | rfl
def Q_rm_cal_2_0 (Z : State) (b : Addr) (kb : ClassId) (vs : List Value) (h0 : Heap) (n0 : Nat) (v : Option Value) (h : Heap) (L : List Loc) : Prop := v = some (.int (0 : Int32)) ∧ Fr n0 L ∧ h = h0
set_option maxRecDepth 65536 in
set_option maxHeartbeats 40000000 in
theorem rm_cal_2_0 (l : Launch) (Z : State) (a0 : Array Value) (hw : ∀ d ∈ tables_1, d.before a0 Z = true) (wz : List Jvm.Cond) (b : Addr) (kb : ClassId) (vs : List Value) (h0 : Heap) (n0 : Nat) (O0 : Old Z n0 h0) (Vb : Arv Z h0 b kb .byte (2 : Int32) vs (.int (0 : Int32))) :
    MetFree l y_18 (head1 (Jvm.Cond.code y_18 jdk_52_method_15_code 2 (some .byte) :: wz) ({ frames := 0, cells := 0, slots := 0, locals := 0 } : Room)) (fun aZ UZ => aZ = #[(.ref b), (.int (2 : Int32))] ∧ Z.Warmed39 UZ.vm ∧ UZ.heap = h0) (fun _ _ _ _ _ => True) (fun _ UZ oZ UY => ∃ vZ LZ, oZ = .returned vZ ∧ Q_rm_cal_2_0 Z b kb vs h0 n0 vZ UY.heap LZ ∧ FrameEnd UZ oZ UY LZ ({ frames := 0, cells := 0, slots := 0, locals := 0 } : Room).cells ({ frames := 0, cells := 0, slots := 0, locals := 0 } : Room).slots) := by
  refine MetFree.of_bodySF (plainFor_of_name pn_9) hisR ?_
  intro p e s m args below meth c s₁ Bd hml0 hP hK
  obtain ⟨rfl, hZ, hh⟩ := hP
  have hx := Bd.exec
  have hby := Bd.bytes
  have hml : c.maxLocals = 2 := hml0
  have hown : s.vm.findClass "java/lang/StringUTF16" = some m.cls := findClass_of_methodNamed Bd.named
  have hnm := (name_of_methodNamed Bd.named Bd.method).1
  have X0 : Stand p l e ({ frames := 0, cells := 0, slots := 0, locals := 0 } : Room) s m #[(.ref b), (.int (2 : Int32))] below meth c s₁ [] 0 0 := Stand.of_body Bd
  have e0 : s₁.heap = h0 := by rw [← hh, Bd.state]; rfl
  have N0 := Fr.nil n0
  have Z0 : n0 ≤ h0.size := O0.1 ▸ O0.2.1
  have K0 := Keep.refl h0 []
  show Go p e below (fun oW tW LW => FrameEnd s oW tW LW ({ frames := 0, cells := 0, slots := 0, locals := 0 } : Room).cells ({ frames := 0, cells := 0, slots := 0, locals := 0 } : Room).slots) (Q_rm_cal_2_0 Z b kb vs h0 n0) s₁ (entryFrame m #[(.ref b), (.int (2 : Int32))] 2)
  refine Go.of (fun t kz => castTop (ef_rm_cal_2_0 m b (2 : Int32)) kz) ?_
  show Go _ _ _ _ _ s₁ (mkF m 0 #[.val (.ref b), .val (.int (2 : Int32))] [])
  refine Go.of (fun _ kz => XS.iloadN X0.here hx rfl (hb hby d9_0) rfl (XS.aloadN X0.here hx rfl (hb hby d9_1) rfl rfl kz)) ?_
  obtain ⟨cl1a, Ar1a, q1a, S1a, N1a, H1a, G1a⟩ := id Vb
  refine Go.of (fun _ kz => X0.arraylength hx (by rw [e0]; exact Ar1a.1) (State.isArrayOf_alike hZ.alike Ar1a.2.1) (g := (mkF m 2 #[.val (.ref b), .val (.int (2 : Int32))] [(.ref b), (.int (2 : Int32))])) rfl rfl (hb hby d9_2) _ kz) ?_
  rw [(len_of S1a N1a)]
  refine Go.of (fun _ kz => XS.isub X0.here hx rfl (hb hby d9_3) rfl kz) ?_
  show Go _ _ _ _ _ s₁ (mkF m 4 #[.val (.ref b), .val (.int (2 : Int32))] [(.int ((2 : Int32) - (2 : Int32)))])
  rw [(by decide : ((2 : Int32) - (2 : Int32)) = (0 : Int32))]
  refine Go.of (fun _ kz => XS.bipush X0.here hx rfl (hb hby d9_4) (XS.iushr X0.here hx rfl (hb hby d9_6) rfl kz)) ?_
  show Go _ _ _ _ _ s₁ (mkF m 7 #[.val (.ref b), .val (.int (2 : Int32))] [(.int (((0 : Int32).toUInt32 >>> ((31 : Int32) &&& 31).toUInt32).toInt32))])
  rw [(by decide : (((0 : Int32).toUInt32 >>> ((31 : Int32) &&& 31).toUInt32).toInt32) = (0 : Int32))]
  refine Go.of (fun _ kz => XS.i2b X0.here hx rfl (hb hby d9_7) rfl kz) ?_
  show Go _ _ _ _ _ s₁ (mkF m 8 #[.val (.ref b), .val (.int (2 : Int32))] [(.int ((0 : Int32).toInt8.toInt32))])
  rw [(by decide : ((0 : Int32).toInt8.toInt32) = (0 : Int32))]
  show Go _ _ _ _ _ s₁ (mkF m 8 #[.val (.ref b), .val (.int (2 : Int32))] [(.int (0 : Int32))])
  refine Go.ret X0 (v := some (.int (0 : Int32))) (fun h => by rw [Bd.returns] at h; cases h) Bd.notSynchronized (fun fs hr => retN X0 hx (t := .byte) Bd.returns (by simp) (hb hby d9_8) hr) (by decide) (by decide) ?_
  show Q_rm_cal_2_0 Z _ _ _ h0 n0 _ s₁.heap _
  rw [e0]
  exact ⟨rfl, N0, rfl⟩

theorem ef_rm_cal_2_1 (m : MethodId) (x0 : Addr) (x1 : Int32) : entryFrame m #[(.ref x0), (.int x1)] 2 = mkF m 0 #[.val (.ref x0), .val (.int x1)] [] := by first | (simp [entryFrame, mkF, argsToLocals, Value.category]; done) | rfl
def Q_rm_cal_2_1 (Z : State) (b : Addr) (kb : ClassId) (vs : List Value) (h0 : Heap) (n0 : Nat) (v : Option Value) (h : Heap) (L : List Loc) : Prop := v = some (.int (1 : Int32)) ∧ Fr n0 L ∧ h = h0
set_option maxRecDepth 65536 in
set_option maxHeartbeats 40000000 in
theorem rm_cal_2_1 (l : Launch) (Z : State) (a0 : Array Value) (hw : ∀ d ∈ tables_1, d.before a0 Z = true) (wz : List Jvm.Cond) (b : Addr) (kb : ClassId) (vs : List Value) (h0 : Heap) (n0 : Nat) (O0 : Old Z n0 h0) (Vb : Arv Z h0 b kb .byte (4 : Int32) vs (.int (0 : Int32))) :
    MetFree l y_18 (head1 (Jvm.Cond.code y_18 jdk_52_method_15_code 2 (some .byte) :: wz) ({ frames := 0, cells := 0, slots := 0, locals := 0 } : Room)) (fun aZ UZ => aZ = #[(.ref b), (.int (2 : Int32))] ∧ Z.Warmed39 UZ.vm ∧ UZ.heap = h0) (fun _ _ _ _ _ => True) (fun _ UZ oZ UY => ∃ vZ LZ, oZ = .returned vZ ∧ Q_rm_cal_2_1 Z b kb vs h0 n0 vZ UY.heap LZ ∧ FrameEnd UZ oZ UY LZ ({ frames := 0, cells := 0, slots := 0, locals := 0 } : Room).cells ({ frames := 0, cells := 0, slots := 0, locals := 0 } : Room).slots) := by
  refine MetFree.of_bodySF (plainFor_of_name pn_9) hisR ?_
  intro p e s m args below meth c s₁ Bd hml0 hP hK
  obtain ⟨rfl, hZ, hh⟩ := hP
  have hx := Bd.exec
  have hby := Bd.bytes
  have hml : c.maxLocals = 2 := hml0
  have hown : s.vm.findClass "java/lang/StringUTF16" = some m.cls := findClass_of_methodNamed Bd.named
  have hnm := (name_of_methodNamed Bd.named Bd.method).1
  have X0 : Stand p l e ({ frames := 0, cells := 0, slots := 0, locals := 0 } : Room) s m #[(.ref b), (.int (2 : Int32))] below meth c s₁ [] 0 0 := Stand.of_body Bd
  have e0 : s₁.heap = h0 := by rw [← hh, Bd.state]; rfl
  have N0 := Fr.nil n0
  have Z0 : n0 ≤ h0.size := O0.1 ▸ O0.2.1
  have K0 := Keep.refl h0 []
  show Go p e below (fun oW tW LW => FrameEnd s oW tW LW ({ frames := 0, cells := 0, slots := 0, locals := 0 } : Room).cells ({ frames := 0, cells := 0, slots := 0, locals := 0 } : Room).slots) (Q_rm_cal_2_1 Z b kb vs h0 n0) s₁ (entryFrame m #[(.ref b), (.int (2 : Int32))] 2)
  refine Go.of (fun t kz => castTop (ef_rm_cal_2_1 m b (2 : Int32)) kz) ?_
  show Go _ _ _ _ _ s₁ (mkF m 0 #[.val (.ref b), .val (.int (2 : Int32))] [])
  refine Go.of (fun _ kz => XS.iloadN X0.here hx rfl (hb hby d9_0) rfl (XS.aloadN X0.here hx rfl (hb hby d9_1) rfl rfl kz)) ?_
  obtain ⟨cl1a, Ar1a, q1a, S1a, N1a, H1a, G1a⟩ := id Vb
  refine Go.of (fun _ kz => X0.arraylength hx (by rw [e0]; exact Ar1a.1) (State.isArrayOf_alike hZ.alike Ar1a.2.1) (g := (mkF m 2 #[.val (.ref b), .val (.int (2 : Int32))] [(.ref b), (.int (2 : Int32))])) rfl rfl (hb hby d9_2) _ kz) ?_
  rw [(len_of S1a N1a)]
  refine Go.of (fun _ kz => XS.isub X0.here hx rfl (hb hby d9_3) rfl kz) ?_
  show Go _ _ _ _ _ s₁ (mkF m 4 #[.val (.ref b), .val (.int (2 : Int32))] [(.int ((2 : Int32) - (4 : Int32)))])
  rw [(by decide : ((2 : Int32) - (4 : Int32)) = (-2 : Int32))]
  refine Go.of (fun _ kz => XS.bipush X0.here hx rfl (hb hby d9_4) (XS.iushr X0.here hx rfl (hb hby d9_6) rfl kz)) ?_
  show Go _ _ _ _ _ s₁ (mkF m 7 #[.val (.ref b), .val (.int (2 : Int32))] [(.int (((-2 : Int32).toUInt32 >>> ((31 : Int32) &&& 31).toUInt32).toInt32))])
  rw [(by decide : (((-2 : Int32).toUInt32 >>> ((31 : Int32) &&& 31).toUInt32).toInt32) = (1 : Int32))]
  refine Go.of (fun _ kz => XS.i2b X0.here hx rfl (hb hby d9_7) rfl kz) ?_
  show Go _ _ _ _ _ s₁ (mkF m 8 #[.val (.ref b), .val (.int (2 : Int32))] [(.int ((1 : Int32).toInt8.toInt32))])
  rw [(by decide : ((1 : Int32).toInt8.toInt32) = (1 : Int32))]
  show Go _ _ _ _ _ s₁ (mkF m 8 #[.val (.ref b), .val (.int (2 : Int32))] [(.int (1 : Int32))])
  refine Go.ret X0 (v := some (.int (1 : Int32))) (fun h => by rw [Bd.returns] at h; cases h) Bd.notSynchronized (fun fs hr => retN X0 hx (t := .byte) Bd.returns (by simp) (hb hby d9_8) hr) (by decide) (by decide) ?_
  show Q_rm_cal_2_1 Z _ _ _ h0 n0 _ s₁.heap _
  rw [e0]
  exact ⟨rfl, N0, rfl⟩

theorem ef_rm_in2_2 (m : MethodId) (x0 : Addr) (x1 : Addr) (x2 : Int32) (x3 : Int32) : entryFrame m #[(.ref x0), (.ref x1), (.int x2), (.int x3), .null] 6 = mkF m 0 #[.val (.ref x0), .val (.ref x1), .val (.int x2), .val (.int x3), .val .null, .unset] [] := by first | (simp [entryFrame, mkF, argsToLocals, Value.category]; done) | rfl
def Q_rm_in2_2 (Z : State) (a : Addr) (cs : Addr) (kc : ClassId) (u0 : UInt16) (u1 : UInt16) (csz : Int32) (h0 : Heap) (n0 : Nat) (v : Option Value) (h : Heap) (L : List Loc) : Prop := v = none ∧ Fr n0 L ∧ Keep h0 h [a] ∧ Exa Z h a "java/lang/String" ∧ ∃ (b : Addr) (kb : ClassId) (cd z : Int32) (vs : List Value), Fld Z h a "java/lang/String" "value" "[B" (.ref b) ∧ Fld Z h a "java/lang/String" "coder" "B" (.int cd) ∧ Arv Z h b kb .byte z vs (.int (0 : Int32)) ∧ nar .byte cd = cd ∧ ((cd = (0 : Int32) ∧ z = (2 : Int32) ∧ vs = [(.int ((own_lo u0).toInt32)), (.int ((own_lo u1).toInt32))] ∧ (¬ (255 : Int32) < (own_ch u0) ∧ ¬ (255 : Int32) < (own_ch u1))) ∨ (cd = (1 : Int32) ∧ z = (4 : Int32) ∧ vs = [(.int ((own_lo0 u0).toInt32)), (.int ((own_hi8 u0).toInt32)), (.int ((own_lo0 u1).toInt32)), (.int ((own_hi8 u1).toInt32))]))
set_option maxRecDepth 65536 in
set_option maxHeartbeats 40000000 in
theorem rm_in2_2 (l : Launch) (Z : State) (a0 : Array Value) (hw : ∀ d ∈ tables_1, d.before a0 Z = true) (wz : List Jvm.Cond) (a : Addr) (cs : Addr) (kc : ClassId) (u0 : UInt16) (u1 : UInt16) (csz : Int32) (h0 : Heap) (n0 : Nat) (O0 : Old Z n0 h0) (E : Exa Z h0 a "java/lang/String") (Fv : Fld Z h0 a "java/lang/String" "value" "[B" .null) (Fc : Fld Z h0 a "java/lang/String" "coder" "B" (.int (0 : Int32))) (ge_a : n0 ≤ a) (hac : cs ≠ a) (Vc : Arv Z h0 cs kc .char (2 : Int32) [(.int (own_ch u0)), (.int (own_ch u1))] (.int (0 : Int32))) (Sas : Sta Z Z.heap "java/lang/StringUTF16" "$assertionsDisabled" "Z" (.int (1 : Int32))) (Shi : Sta Z Z.heap "java/lang/StringUTF16" "HI_BYTE_SHIFT" "I" (.int (0 : Int32))) (Slo : Sta Z Z.heap "java/lang/StringUTF16" "LO_BYTE_SHIFT" "I" (.int (8 : Int32))) (Scs : Sta Z Z.heap "java/lang/String" "COMPACT_STRINGS" "Z" (.int csz)) (hcs : ¬ csz = (0 : Int32)) :
    MetFree l y_19 (head1 (Jvm.Cond.code y_19 jdk_42_method_149_code 6 none :: wz) ({ frames := 4, cells := 2, slots := 6, locals := 57 } : Room)) (fun aZ UZ => aZ = #[(.ref a), (.ref cs), (.int (0 : Int32)), (.int (2 : Int32)), .null] ∧ Z.Warmed39 UZ.vm ∧ UZ.heap = h0) (fun _ _ _ _ _ => True) (fun _ UZ oZ UY => ∃ vZ LZ, oZ = .returned vZ ∧ Q_rm_in2_2 Z a cs kc u0 u1 csz h0 n0 vZ UY.heap LZ ∧ FrameEnd UZ oZ UY LZ ({ frames := 4, cells := 2, slots := 6, locals := 57 } : Room).cells ({ frames := 4, cells := 2, slots := 6, locals := 57 } : Room).slots) := by
  refine MetFree.of_bodySF (plainFor_of_name pn_3) hisR ?_
  intro p e s m args below meth c s₁ Bd hml0 hP hK
  obtain ⟨rfl, hZ, hh⟩ := hP
  have hx := Bd.exec
  have hby := Bd.bytes
  have hml : c.maxLocals = 6 := hml0
  have hown : s.vm.findClass "java/lang/String" = some m.cls := findClass_of_methodNamed Bd.named
  have hnm := (name_of_methodNamed Bd.named Bd.method).1
  have X0 : Stand p l e ({ frames := 4, cells := 2, slots := 6, locals := 57 } : Room) s m #[(.ref a), (.ref cs), (.int (0 : Int32)), (.int (2 : Int32)), .null] below meth c s₁ [] 0 0 := Stand.of_body Bd
  have e0 : s₁.heap = h0 := by rw [← hh, Bd.state]; rfl
  have N0 := Fr.nil n0
  have Z0 : n0 ≤ h0.size := O0.1 ▸ O0.2.1
  have K0 := Keep.refl h0 []
  show Go p e below (fun oW tW LW => FrameEnd s oW tW LW ({ frames := 4, cells := 2, slots := 6, locals := 57 } : Room).cells ({ frames := 4, cells := 2, slots := 6, locals := 57 } : Room).slots) (Q_rm_in2_2 Z a cs kc u0 u1 csz h0 n0) s₁ (entryFrame m #[(.ref a), (.ref cs), (.int (0 : Int32)), (.int (2 : Int32)), .null] 6)
  refine Go.of (fun t kz => castTop (ef_rm_in2_2 m a cs (0 : Int32) (2 : Int32)) kz) ?_
  show Go _ _ _ _ _ s₁ (mkF m 0 #[.val (.ref a), .val (.ref cs), .val (.int (0 : Int32)), .val (.int (2 : Int32)), .val .null, .unset] [])
  refine Go.of (fun _ kz => XS.aloadN X0.here hx rfl (hb hby d3_0) rfl rfl kz) ?_
  show Go _ _ _ _ _ s₁ (mkF m 1 #[.val (.ref a), .val (.ref cs), .val (.int (0 : Int32)), .val (.int (2 : Int32)), .val .null, .unset] [(.ref a)])
  obtain ⟨T1, X1, e1, st1⟩ := initO X0 hx hZ hown (w17 hw) (w18 hw) (w19 hw) e0 (g := (mkF m 1 #[.val (.ref a), .val (.ref cs), .val (.int (0 : Int32)), .val (.int (2 : Int32)), .val .null, .unset] [(.ref a)])) rfl (by rw [hml]; rfl) rfl (hb hby d3_1) (by decide) (W := 0) (by show 2 * 0 + _ ≤ _; exact Nat.le_of_eq rfl) (by decide)
  refine Go.of (fun _ kz => st1 _ kz) ?_
  refine Go.of (fun _ kz => XS.iloadN X1.here hx rfl (hb hby d3_4) rfl kz) ?_
  refine Go.of (fun _ kz => XS.ifYes X1.here hx rfl (pc0 := 5) (pc' := 27) rfl (hb hby d3_5) rfl ((if0 _ _).trans (feq (by decide : ¬ (2 : Int32) = (0 : Int32))).2) (by decide) (by decide) kz) ?_
  show Go _ _ _ _ _ T1 (mkF m 27 #[.val (.ref a), .val (.ref cs), .val (.int (0 : Int32)), .val (.int (2 : Int32)), .val .null, .unset] [])
  refine Go.getS X1 hx hZ hown (host := "") (Or.inl (w37 hw)) Via.refl e1 ((Scs).ext O0.2) (hb hby d3_27) fun T2 X2 e2 => ?_
  refine Go.of (fun _ kz => XS.ifNo X2.here hx rfl (hb hby d3_30) rfl ((if0 _ _).trans (feq hcs).1) kz) ?_
  refine Go.of (fun _ kz => XS.aloadN X2.here hx rfl (hb hby d3_33) rfl rfl (XS.iloadN X2.here hx rfl (hb hby d3_34) rfl (XS.iloadN X2.here hx rfl (hb hby d3_35) rfl kz))) ?_
  show Go _ _ _ _ _ T2 (mkF m 36 #[.val (.ref a), .val (.ref cs), .val (.int (0 : Int32)), .val (.int (2 : Int32)), .val .null, .unset] [(.int (2 : Int32)), (.int (0 : Int32)), (.ref cs)])
  refine Go.callS X2 hx hZ hown (y := y_17) (w38 hw) (w39 hw) (w40 hw) (w41 hw) (by decide) (rm_co_2 l Z a0 hw [] cs kc u0 u1 h0 n0 O0 Vc Sas Shi Slo) e2 0 (by decide) (by decide) (by rw [hml]; rfl) (argsL := [(.ref cs), (.int (0 : Int32)), (.int (2 : Int32))]) (rest := []) (lenOf pd_11 rfl) rfl rfl (Nat.le_of_eq rfl) (hb hby d3_36) (c2 := 2) (s2 := 6) rfl rfl (by decide) (by decide) fun v3 T3 Lc3 L3 X3 l3 hQ3 => ?_
  obtain ⟨b3, kb3, zz3, vs3, rfl, N3q, K3, hsz3, V3, hD3⟩ := hQ3
  have N3 : Fr n0 L3 := by rw [l3]; exact Fr.app N0 N3q
  have ne_a_b3 : a ≠ b3 := Nat.ne_of_lt (Nat.lt_of_lt_of_le E.lt hsz3)
  have f3_Exa_a := E.keep K3
  have f3_Fld_a_value := Fv.keep K3 nin0
  have f3_Fld_a_coder := Fc.keep K3 nin0
  have f3_Arv_cs := Vc.keep K3 nin0
  have O3 := O0.keep K3 all0
  have Kk3 := (Keep.refl h0 [a]).trans K3 all0
  show Go _ _ _ _ _ T3 (mkF m 39 #[.val (.ref a), .val (.ref cs), .val (.int (0 : Int32)), .val (.int (2 : Int32)), .val .null, .unset] [(.ref b3)])
  rcases hD3 with ⟨rfl, rfl, hlat⟩ | ⟨rfl, rfl⟩
  · show Go _ _ _ _ _ T3 (mkF m 39 #[.val (.ref a), .val (.ref cs), .val (.int (0 : Int32)), .val (.int (2 : Int32)), .val .null, .unset] [(.ref b3)])
    refine Go.of (fun _ kz => XS.astore X3.here hx rfl (hb hby d3_39) rfl rfl (l' := #[.val (.ref a), .val (.ref cs), .val (.int (0 : Int32)), .val (.int (2 : Int32)), .val .null, .val (.ref b3)]) rfl (XS.aloadN X3.here hx rfl (hb hby d3_41) rfl rfl (XS.aload X3.here hx rfl (hb hby d3_42) rfl rfl (XS.iloadN X3.here hx rfl (hb hby d3_44) rfl kz)))) ?_
    show Go _ _ _ _ _ T3 (mkF m 45 #[.val (.ref a), .val (.ref cs), .val (.int (0 : Int32)), .val (.int (2 : Int32)), .val .null, .val (.ref b3)] [(.int (2 : Int32)), (.ref b3), (.ref a)])
    refine Go.callS X3 hx hZ hown (y := y_18) (w45 hw) (w46 hw) (w40 hw) (w47 hw) (by decide) (rm_cal_2_0 l Z a0 hw [] b3 kb3 [(.int ((own_lo u0).toInt32)), (.int ((own_lo u1).toInt32))] T3.heap n0 O3 V3) rfl 1 (by decide) (by decide) (by rw [hml]; rfl) (argsL := [(.ref b3), (.int (2 : Int32))]) (rest := [(.ref a)]) (lenOf pd_12 rfl) rfl rfl (Nat.le_of_eq rfl) (hb hby d3_45) (c2 := 2) (s2 := 6) rfl rfl (by decide) (by decide) fun v4 T4 Lc4 L4 X4 l4 hQ4 => ?_
    obtain ⟨rfl, N4q, e4⟩ := hQ4
    have N4 : Fr n0 L4 := by rw [l4]; exact Fr.app N3 N4q
    obtain ⟨T5, h5, X5, e5, W5, st5⟩ := putFN X4 hx hZ hown (w27 hw) Via.refl e4 f3_Fld_a_coder f3_Exa_a (Or.inr ⟨(w23 hw), rfl, hnm⟩) (w3 hw) (ty := .byte) (v' := (.int (0 : Int32))) (by decide) rfl (by decide) (g := (mkF m 48 #[.val (.ref a), .val (.ref cs), .val (.int (0 : Int32)), .val (.int (2 : Int32)), .val .null, .val (.ref b3)] [(.int (0 : Int32)), (.ref a)])) rfl rfl (hb hby d3_48)
    have Fw5 := f3_Fld_a_coder.same W5
    have f5_Exa_a := f3_Exa_a.wr W5
    have f5_Fld_a_value := f3_Fld_a_value.other W5 (Or.inr (slot_ne (Or.inr (w22 hw)) (Or.inr (w23 hw)) (by decide) (t := (.array .byte)) (t' := .byte) (by decide) (by decide)))
    have f5_Arv_cs := f3_Arv_cs.other W5 hac
    have f5_Arv_b3 := V3.other W5 (Ne.symm ne_a_b3)
    have O5 := O3.wr W5 ge_a
    have N5 := Fr.snoc X5 N4 ge_a
    have Kk5 := Kk3.wr W5 (Or.inl (List.mem_singleton.mpr rfl))
    refine Go.of (fun _ kz => st5 _ kz) ?_
    refine Go.of (fun _ kz => XS.aloadN X5.here hx rfl (hb hby d3_51) rfl rfl (XS.aload X5.here hx rfl (hb hby d3_52) rfl rfl kz)) ?_
    obtain ⟨T6, h6, X6, e6, W6, st6⟩ := putF X5 hx hZ hown (host := "") (Or.inl (w26 hw)) Via.refl e5 f5_Fld_a_value f5_Exa_a (Or.inr ⟨(w22 hw), rfl, hnm⟩) (w3 hw) (ty := (.array .byte)) (by decide) rfl rfl (g := (mkF m 54 #[.val (.ref a), .val (.ref cs), .val (.int (0 : Int32)), .val (.int (2 : Int32)), .val .null, .val (.ref b3)] [(.ref b3), (.ref a)])) rfl rfl (hb hby d3_54)
    have Fw6 := f5_Fld_a_value.same W6
    have f6_Exa_a := f5_Exa_a.wr W6
    have f6_Fld_a_coder := Fw5.other W6 (Or.inr (slot_ne (Or.inr (w23 hw)) (Or.inr (w22 hw)) (by decide) (t := .byte) (t' := (.array .byte)) (by decide) (by decide)))
    have f6_Arv_cs := f5_Arv_cs.other W6 hac
    have f6_Arv_b3 := f5_Arv_b3.other W6 (Ne.symm ne_a_b3)
    have O6 := O5.wr W6 ge_a
    have N6 := Fr.snoc X6 N5 ge_a
    have Kk6 := Kk5.wr W6 (Or.inl (List.mem_singleton.mpr rfl))
    refine Go.of (fun _ kz => st6 _ kz) ?_
    refine Go.ret X6 (v := none) (fun _ => rfl) Bd.notSynchronized (fun fs hr => X6.returnOut hx Bd.returns (hb hby d3_57) hr) (by decide) (by decide) ?_
    show Q_rm_in2_2 Z _ _ _ _ _ _ h0 n0 _ T6.heap _
    rw [e6]
    exact ⟨rfl, N6, Kk6, f6_Exa_a, _, _, _, _, _, Fw6, f6_Fld_a_coder, f6_Arv_b3, by decide, Or.inl ⟨rfl, rfl, rfl, hlat⟩⟩
  · show Go _ _ _ _ _ T3 (mkF m 39 #[.val (.ref a), .val (.ref cs), .val (.int (0 : Int32)), .val (.int (2 : Int32)), .val .null, .unset] [(.ref b3)])
    refine Go.of (fun _ kz => XS.astore X3.here hx rfl (hb hby d3_39) rfl rfl (l' := #[.val (.ref a), .val (.ref cs), .val (.int (0 : Int32)), .val (.int (2 : Int32)), .val .null, .val (.ref b3)]) rfl (XS.aloadN X3.here hx rfl (hb hby d3_41) rfl rfl (XS.aload X3.here hx rfl (hb hby d3_42) rfl rfl (XS.iloadN X3.here hx rfl (hb hby d3_44) rfl kz)))) ?_
    show Go _ _ _ _ _ T3 (mkF m 45 #[.val (.ref a), .val (.ref cs), .val (.int (0 : Int32)), .val (.int (2 : Int32)), .val .null, .val (.ref b3)] [(.int (2 : Int32)), (.ref b3), (.ref a)])
    refine Go.callS X3 hx hZ hown (y := y_18) (w45 hw) (w46 hw) (w40 hw) (w47 hw) (by decide) (rm_cal_2_1 l Z a0 hw [] b3 kb3 [(.int ((own_lo0 u0).toInt32)), (.int ((own_hi8 u0).toInt32)), (.int ((own_lo0 u1).toInt32)), (.int ((own_hi8 u1).toInt32))] T3.heap n0 O3 V3) rfl 1 (by decide) (by decide) (by rw [hml]; rfl) (argsL := [(.ref b3), (.int (2 : Int32))]) (rest := [(.ref a)]) (lenOf pd_12 rfl) rfl rfl (Nat.le_of_eq rfl) (hb hby d3_45) (c2 := 2) (s2 := 6) rfl rfl (by decide) (by decide) fun v7 T7 Lc7 L7 X7 l7 hQ7 => ?_
    obtain ⟨rfl, N7q, e7⟩ := hQ7
    have N7 : Fr n0 L7 := by rw [l7]; exact Fr.app N3 N7q
    obtain ⟨T8, h8, X8, e8, W8, st8⟩ := putFN X7 hx hZ hown (w27 hw) Via.refl e7 f3_Fld_a_coder f3_Exa_a (Or.inr ⟨(w23 hw), rfl, hnm⟩) (w3 hw) (ty := .byte) (v' := (.int (1 : Int32))) (by decide) rfl (by decide) (g := (mkF m 48 #[.val (.ref a), .val (.ref cs), .val (.int (0 : Int32)), .val (.int (2 : Int32)), .val .null, .val (.ref b3)] [(.int (1 : Int32)), (.ref a)])) rfl rfl (hb hby d3_48)
    have Fw8 := f3_Fld_a_coder.same W8
    have f8_Exa_a := f3_Exa_a.wr W8
    have f8_Fld_a_value := f3_Fld_a_value.other W8 (Or.inr (slot_ne (Or.inr (w22 hw)) (Or.inr (w23 hw)) (by decide) (t := (.array .byte)) (t' := .byte) (by decide) (by decide)))
    have f8_Arv_cs := f3_Arv_cs.other W8 hac
    have f8_Arv_b3 := V3.other W8 (Ne.symm ne_a_b3)
    have O8 := O3.wr W8 ge_a
    have N8 := Fr.snoc X8 N7 ge_a
    have Kk8 := Kk3.wr W8 (Or.inl (List.mem_singleton.mpr rfl))
    refine Go.of (fun _ kz => st8 _ kz) ?_
    refine Go.of (fun _ kz => XS.aloadN X8.here hx rfl (hb hby d3_51) rfl rfl (XS.aload X8.here hx rfl (hb hby d3_52) rfl rfl kz)) ?_
    obtain ⟨T9, h9, X9, e9, W9, st9⟩ := putF X8 hx hZ hown (host := "") (Or.inl (w26 hw)) Via.refl e8 f8_Fld_a_value f8_Exa_a (Or.inr ⟨(w22 hw), rfl, hnm⟩) (w3 hw) (ty := (.array .byte)) (by decide) rfl rfl (g := (mkF m 54 #[.val (.ref a), .val (.ref cs), .val (.int (0 : Int32)), .val (.int (2 : Int32)), .val .null, .val (.ref b3)] [(.ref b3), (.ref a)])) rfl rfl (hb hby d3_54)
    have Fw9 := f8_Fld_a_value.same W9
    have f9_Exa_a := f8_Exa_a.wr W9
    have f9_Fld_a_coder := Fw8.other W9 (Or.inr (slot_ne (Or.inr (w23 hw)) (Or.inr (w22 hw)) (by decide) (t := .byte) (t' := (.array .byte)) (by decide) (by decide)))
    have f9_Arv_cs := f8_Arv_cs.other W9 hac
    have f9_Arv_b3 := f8_Arv_b3.other W9 (Ne.symm ne_a_b3)
    have O9 := O8.wr W9 ge_a
    have N9 := Fr.snoc X9 N8 ge_a
    have Kk9 := Kk8.wr W9 (Or.inl (List.mem_singleton.mpr rfl))
    refine Go.of (fun _ kz => st9 _ kz) ?_
    refine Go.ret X9 (v := none) (fun _ => rfl) Bd.notSynchronized (fun fs hr => X9.returnOut hx Bd.returns (hb hby d3_57) hr) (by decide) (by decide) ?_
    show Q_rm_in2_2 Z _ _ _ _ _ _ h0 n0 _ T9.heap _
    rw [e9]
    exact ⟨rfl, N9, Kk9, f9_Exa_a, _, _, _, _, _, Fw9, f9_Fld_a_coder, f9_Arv_b3, by decide, Or.inr ⟨rfl, rfl, rfl⟩⟩

theorem ef_rm_in1_2 (m : MethodId) (x0 : Addr) (x1 : Addr) : entryFrame m #[(.ref x0), (.ref x1)] 2 = mkF m 0 #[.val (.ref x0), .val (.ref x1)] [] := by first | (simp [entryFrame, mkF, argsToLocals, Value.category]; done) | rfl
def Q_rm_in1_2 (Z : State) (a : Addr) (cs : Addr) (kc : ClassId) (u0 : UInt16) (u1 : UInt16) (csz : Int32) (h0 : Heap) (n0 : Nat) (v : Option Value) (h : Heap) (L : List Loc) : Prop := v = none ∧ Fr n0 L ∧ Keep h0 h [a] ∧ Exa Z h a "java/lang/String" ∧ ∃ (b : Addr) (kb : ClassId) (cd z : Int32) (vs : List Value), Fld Z h a "java/lang/String" "value" "[B" (.ref b) ∧ Fld Z h a "java/lang/String" "coder" "B" (.int cd) ∧ Arv Z h b kb .byte z vs (.int (0 : Int32)) ∧ nar .byte cd = cd ∧ ((cd = (0 : Int32) ∧ z = (2 : Int32) ∧ vs = [(.int ((own_lo u0).toInt32)), (.int ((own_lo u1).toInt32))] ∧ (¬ (255 : Int32) < (own_ch u0) ∧ ¬ (255 : Int32) < (own_ch u1))) ∨ (cd = (1 : Int32) ∧ z = (4 : Int32) ∧ vs = [(.int ((own_lo0 u0).toInt32)), (.int ((own_hi8 u0).toInt32)), (.int ((own_lo0 u1).toInt32)), (.int ((own_hi8 u1).toInt32))]))
set_option maxRecDepth 65536 in
set_option maxHeartbeats 40000000 in
theorem rm_in1_2 (l : Launch) (Z : State) (a0 : Array Value) (hw : ∀ d ∈ tables_1, d.before a0 Z = true) (wz : List Jvm.Cond) (a : Addr) (cs : Addr) (kc : ClassId) (u0 : UInt16) (u1 : UInt16) (csz : Int32) (h0 : Heap) (n0 : Nat) (O0 : Old Z n0 h0) (E : Exa Z h0 a "java/lang/String") (Fv : Fld Z h0 a "java/lang/String" "value" "[B" .null) (Fc : Fld Z h0 a "java/lang/String" "coder" "B" (.int (0 : Int32))) (ge_a : n0 ≤ a) (hac : cs ≠ a) (Vc : Arv Z h0 cs kc .char (2 : Int32) [(.int (own_ch u0)), (.int (own_ch u1))] (.int (0 : Int32))) (Sas : Sta Z Z.heap "java/lang/StringUTF16" "$assertionsDisabled" "Z" (.int (1 : Int32))) (Shi : Sta Z Z.heap "java/lang/StringUTF16" "HI_BYTE_SHIFT" "I" (.int (0 : Int32))) (Slo : Sta Z Z.heap "java/lang/StringUTF16" "LO_BYTE_SHIFT" "I" (.int (8 : Int32))) (Scs : Sta Z Z.heap "java/lang/String" "COMPACT_STRINGS" "Z" (.int csz)) (hcs : ¬ csz = (0 : Int32)) :
    MetFree l y_20 (head1 (Jvm.Cond.code y_20 jdk_42_method_3_code 2 none :: wz) ({ frames := 5, cells := 2, slots := 6, locals := 74 } : Room)) (fun aZ UZ => aZ = #[(.ref a), (.ref cs)] ∧ Z.Warmed39 UZ.vm ∧ UZ.heap = h0) (fun _ _ _ _ _ => True) (fun _ UZ oZ UY => ∃ vZ LZ, oZ = .returned vZ ∧ Q_rm_in1_2 Z a cs kc u0 u1 csz h0 n0 vZ UY.heap LZ ∧ FrameEnd UZ oZ UY LZ ({ frames := 5, cells := 2, slots := 6, locals := 74 } : Room).cells ({ frames := 5, cells := 2, slots := 6, locals := 74 } : Room).slots) := by
  refine MetFree.of_bodySF (plainFor_of_name pn_2) hisR ?_
  intro p e s m args below meth c s₁ Bd hml0 hP hK
  obtain ⟨rfl, hZ, hh⟩ := hP
  have hx := Bd.exec
  have hby := Bd.bytes
  have hml : c.maxLocals = 2 := hml0
  have hown : s.vm.findClass "java/lang/String" = some m.cls := findClass_of_methodNamed Bd.named
  have hnm := (name_of_methodNamed Bd.named Bd.method).1
  have X0 : Stand p l e ({ frames := 5, cells := 2, slots := 6, locals := 74 } : Room) s m #[(.ref a), (.ref cs)] below meth c s₁ [] 0 0 := Stand.of_body Bd
  have e0 : s₁.heap = h0 := by rw [← hh, Bd.state]; rfl
  have N0 := Fr.nil n0
  have Z0 : n0 ≤ h0.size := O0.1 ▸ O0.2.1
  have K0 := Keep.refl h0 []
  show Go p e below (fun oW tW LW => FrameEnd s oW tW LW ({ frames := 5, cells := 2, slots := 6, locals := 74 } : Room).cells ({ frames := 5, cells := 2, slots := 6, locals := 74 } : Room).slots) (Q_rm_in1_2 Z a cs kc u0 u1 csz h0 n0) s₁ (entryFrame m #[(.ref a), (.ref cs)] 2)
  refine Go.of (fun t kz => castTop (ef_rm_in1_2 m a cs) kz) ?_
  show Go _ _ _ _ _ s₁ (mkF m 0 #[.val (.ref a), .val (.ref cs)] [])
  refine Go.of (fun _ kz => XS.aloadN X0.here hx rfl (hb hby d2_0) rfl rfl (XS.aloadN X0.here hx rfl (hb hby d2_1) rfl rfl (XS.iconst X0.here hx rfl (hb hby d2_2) (XS.aloadN X0.here hx rfl (hb hby d2_3) rfl rfl kz)))) ?_
  obtain ⟨cl1a, Ar1a, q1a, S1a, N1a, H1a, G1a⟩ := id Vc
  refine Go.of (fun _ kz => X0.arraylength hx (by rw [e0]; exact Ar1a.1) (State.isArrayOf_alike hZ.alike Ar1a.2.1) (g := (mkF m 4 #[.val (.ref a), .val (.ref cs)] [(.ref cs), (.int (0 : Int32)), (.ref cs), (.ref a)])) rfl rfl (hb hby d2_4) _ kz) ?_
  rw [(len_of S1a N1a)]
  refine Go.of (fun _ kz => XS.aconstNull X0.here hx rfl (hb hby d2_5) kz) ?_
  show Go _ _ _ _ _ s₁ (mkF m 6 #[.val (.ref a), .val (.ref cs)] [.null, (.int (2 : Int32)), (.int (0 : Int32)), (.ref cs), (.ref a)])
  refine Go.callI X0 hx hZ hown (y := y_19) rfl (w13 hw) (w14 hw) (w4 hw) (w16 hw) (by decide) (a := a) (rm_in2_2 l Z a0 hw [] a cs kc u0 u1 csz h0 n0 O0 E Fv Fc ge_a hac Vc Sas Shi Slo Scs hcs) e0 0 (by decide) (by decide) (by rw [hml]; rfl) (argsL := [(.ref cs), (.int (0 : Int32)), (.int (2 : Int32)), .null]) (rest := []) (lenOf pd_13 rfl) rfl rfl (Nat.le_of_eq rfl) (hb hby d2_6) (c2 := 2) (s2 := 6) rfl rfl (by decide) (by decide) fun v2 T2 Lc2 L2 X2 l2 hQ2 => ?_
  obtain ⟨rfl, N2q, hR2⟩ := hQ2
  have N2 : Fr n0 L2 := by rw [l2]; exact Fr.app N0 N2q
  refine Go.ret X2 (v := none) (fun _ => rfl) Bd.notSynchronized (fun fs hr => X2.returnOut hx Bd.returns (hb hby d2_9) hr) (by decide) (by decide) ?_
  show Q_rm_in1_2 Z _ _ _ _ _ _ h0 n0 _ T2.heap _
  exact ⟨rfl, N2, hR2⟩

theorem ef_rm_ci_3 (m : MethodId) (x0 : Addr) (x1 : Int32) (x2 : Addr) (x3 : Int32) (x4 : Int32) : entryFrame m #[(.ref x0), (.int x1), (.ref x2), (.int x3), (.int x4)] 7 = mkF m 0 #[.val (.ref x0), .val (.int x1), .val (.ref x2), .val (.int x3), .val (.int x4), .unset, .unset] [] := by first | (simp [entryFrame, mkF, argsToLocals, Value.category]; done) | rfl
def Q_rm_ci_3 (Z : State) (cs : Addr) (bs : Addr) (kc : ClassId) (kb : ClassId) (u0 : UInt16) (u1 : UInt16) (u2 : UInt16) (h0 : Heap) (n0 : Nat) (v : Option Value) (h : Heap) (L : List Loc) : Prop := ∃ k : Int32, v = some (.int k) ∧ Fr n0 L ∧ Keep h0 h [bs] ∧ ((k = (3 : Int32) ∧ (¬ (255 : Int32) < (own_ch u0) ∧ ¬ (255 : Int32) < (own_ch u1) ∧ ¬ (255 : Int32) < (own_ch u2)) ∧ Arv Z h bs kb .byte (3 : Int32) [(.int ((own_lo u0).toInt32)), (.int ((own_lo u1).toInt32)), (.int ((own_lo u2).toInt32))] (.int (0 : Int32))) ∨ ((k = (0 : Int32) ∧ (255 : Int32) < (own_ch u0)) ∨ (k = (1 : Int32) ∧ ¬ (255 : Int32) < (own_ch u0) ∧ (255 : Int32) < (own_ch u1)) ∨ (k = (2 : Int32) ∧ ¬ (255 : Int32) < (own_ch u0) ∧ ¬ (255 : Int32) < (own_ch u1) ∧ (255 : Int32) < (own_ch u2))))
set_option maxRecDepth 65536 in
set_option maxHeartbeats 40000000 in
theorem rm_ci_3 (l : Launch) (Z : State) (a0 : Array Value) (hw : ∀ d ∈ tables_1, d.before a0 Z = true) (wz : List Jvm.Cond) (cs : Addr) (bs : Addr) (kc : ClassId) (kb : ClassId) (u0 : UInt16) (u1 : UInt16) (u2 : UInt16) (h0 : Heap) (n0 : Nat) (O0 : Old Z n0 h0) (Vc : Arv Z h0 cs kc .char (3 : Int32) [(.int (own_ch u0)), (.int (own_ch u1)), (.int (own_ch u2))] (.int (0 : Int32))) (Vb : Arv Z h0 bs kb .byte (3 : Int32) [(.int (0 : Int32)), (.int (0 : Int32)), (.int (0 : Int32))] (.int (0 : Int32))) (hne : cs ≠ bs) (ge_bs : n0 ≤ bs) :
    MetFree l y_13 (head1 (Jvm.Cond.code y_13 jdk_52_method_21_code 7 (some .int) :: wz) ({ frames := 0, cells := 0, slots := 0, locals := 0 } : Room)) (fun aZ UZ => aZ = #[(.ref cs), (.int (0 : Int32)), (.ref bs), (.int (0 : Int32)), (.int (3 : Int32))] ∧ Z.Warmed39 UZ.vm ∧ UZ.heap = h0) (fun _ _ _ _ _ => True) (fun _ UZ oZ UY => ∃ vZ LZ, oZ = .returned vZ ∧ Q_rm_ci_3 Z cs bs kc kb u0 u1 u2 h0 n0 vZ UY.heap LZ ∧ FrameEnd UZ oZ UY LZ ({ frames := 0, cells := 0, slots := 0, locals := 0 } : Room).cells ({ frames := 0, cells := 0, slots := 0, locals := 0 } : Room).slots) := by
  refine MetFree.of_bodySF (plainFor_of_name pn_8) hisR ?_
  intro p e s m args below meth c s₁ Bd hml0 hP hK
  obtain ⟨rfl, hZ, hh⟩ := hP
  have hx := Bd.exec
  have hby := Bd.bytes
  have hml : c.maxLocals = 7 := hml0
  have hown : s.vm.findClass "java/lang/StringUTF16" = some m.cls := findClass_of_methodNamed Bd.named
  have hnm := (name_of_methodNamed Bd.named Bd.method).1
  have X0 : Stand p l e ({ frames := 0, cells := 0, slots := 0, locals := 0 } : Room) s m #[(.ref cs), (.int (0 : Int32)), (.ref bs), (.int (0 : Int32)), (.int (3 : Int32))] below meth c s₁ [] 0 0 := Stand.of_body Bd
  have e0 : s₁.heap = h0 := by rw [← hh, Bd.state]; rfl
  have N0 := Fr.nil n0
  have Z0 : n0 ≤ h0.size := O0.1 ▸ O0.2.1
  have K0 := Keep.refl h0 []
  show Go p e below (fun oW tW LW => FrameEnd s oW tW LW ({ frames := 0, cells := 0, slots := 0, locals := 0 } : Room).cells ({ frames := 0, cells := 0, slots := 0, locals := 0 } : Room).slots) (Q_rm_ci_3 Z cs bs kc kb u0 u1 u2 h0 n0) s₁ (entryFrame m #[(.ref cs), (.int (0 : Int32)), (.ref bs), (.int (0 : Int32)), (.int (3 : Int32))] 7)
  refine Go.of (fun t kz => castTop (ef_rm_ci_3 m cs (0 : Int32) bs (0 : Int32) (3 : Int32)) kz) ?_
  show Go _ _ _ _ _ s₁ (mkF m 0 #[.val (.ref cs), .val (.int (0 : Int32)), .val (.ref bs), .val (.int (0 : Int32)), .val (.int (3 : Int32)), .unset, .unset] [])
  refine Go.of (fun _ kz => XS.iconst X0.here hx rfl (hb hby d8_0) (XS.istore X0.here hx rfl (hb hby d8_1) rfl (l' := #[.val (.ref cs), .val (.int (0 : Int32)), .val (.ref bs), .val (.int (0 : Int32)), .val (.int (3 : Int32)), .val (.int (0 : Int32)), .unset]) rfl (XS.iload X0.here hx rfl (hb hby d8_3) rfl (XS.iload X0.here hx rfl (hb hby d8_5) rfl kz)))) ?_
  refine Go.of (fun _ kz => XS.icmpNo X0.here hx rfl (hb hby d8_7) rfl (tlt (by decide : (0 : Int32) < (3 : Int32))).2.1 kz) ?_
  refine Go.of (fun _ kz => XS.aloadN X0.here hx rfl (hb hby d8_10) rfl rfl (XS.iloadN X0.here hx rfl (hb hby d8_11) rfl kz)) ?_
  show Go _ _ _ _ _ s₁ (mkF m 12 #[.val (.ref cs), .val (.int (0 : Int32)), .val (.ref bs), .val (.int (0 : Int32)), .val (.int (3 : Int32)), .val (.int (0 : Int32)), .unset] [(.int (0 : Int32)), (.ref cs)])
  obtain ⟨cl1a, Ar1a, q1a, S1a, N1a, H1a, G1a⟩ := id Vc
  have hin1 := inb_of S1a (j := (0 : Int32)) ⟨by decide, by decide⟩
  refine Go.of (fun _ kz => X0.caload hx (j := (0 : Int32)) (v := (.int (own_ch u0))) (by rw [e0]; exact Ar1a.1) (State.isArrayOf_alike hZ.alike Ar1a.2.1) Ar1a.2.2 hin1 (H1a.at hin1 rfl) (g := (mkF m 12 #[.val (.ref cs), .val (.int (0 : Int32)), .val (.ref bs), .val (.int (0 : Int32)), .val (.int (3 : Int32)), .val (.int (0 : Int32)), .unset] [(.int (0 : Int32)), (.ref cs)])) rfl rfl (hb hby d8_12) _ kz) ?_
  refine Go.of (fun _ kz => XS.istore X0.here hx rfl (hb hby d8_13) rfl (l' := #[.val (.ref cs), .val (.int (0 : Int32)), .val (.ref bs), .val (.int (0 : Int32)), .val (.int (3 : Int32)), .val (.int (0 : Int32)), .val (.int (own_ch u0))]) rfl (XS.iload X0.here hx rfl (hb hby d8_15) rfl (XS.sipush X0.here hx rfl (hb hby d8_17) kz))) ?_
  by_cases hc20_2 : (255 : Int32) < (own_ch u0)
  · refine Go.of (fun _ kz => XS.icmpNo X0.here hx rfl (hb hby d8_20) rfl (tlt hc20_2).2.2.2 kz) ?_
    refine Go.of (fun _ kz => XS.iload X0.here hx rfl (hb hby d8_23) rfl kz) ?_
    refine Go.ret X0 (v := some (.int (0 : Int32))) (fun h => by rw [Bd.returns] at h; cases h) Bd.notSynchronized (fun fs hr => own_retI X0 hx Bd.returns (hb hby d8_25) hr) (by decide) (by decide) ?_
    show Q_rm_ci_3 Z _ _ _ _ _ _ _ h0 n0 _ s₁.heap _
    rw [e0]
    exact ⟨_, rfl, N0, (Keep.refl h0 [bs]), Or.inr (Or.inl ⟨rfl, hc20_2⟩)⟩
  · refine Go.of (fun _ kz => XS.icmpYes X0.here hx rfl (pc0 := 20) (pc' := 26) rfl (hb hby d8_20) rfl (flt hc20_2).2.2.2 (by decide) (by decide) kz) ?_
    refine Go.of (fun _ kz => XS.aloadN X0.here hx rfl (hb hby d8_26) rfl rfl (XS.iloadN X0.here hx rfl (hb hby d8_27) rfl (XS.iload X0.here hx rfl (hb hby d8_28) rfl (XS.i2b X0.here hx rfl (hb hby d8_30) rfl kz)))) ?_
    show Go _ _ _ _ _ s₁ (mkF m 31 #[.val (.ref cs), .val (.int (0 : Int32)), .val (.ref bs), .val (.int (0 : Int32)), .val (.int (3 : Int32)), .val (.int (0 : Int32)), .val (.int (own_ch u0))] [(.int ((own_lo u0).toInt32)), (.int (0 : Int32)), (.ref bs)])
    obtain ⟨cl3a, Ar3a, q3a, S3a, N3a, H3a, G3a⟩ := id Vb
    have hin3 := inb_of S3a (j := (0 : Int32)) ⟨by decide, by decide⟩
    obtain ⟨T3, h3, X3, e3, W3, st3⟩ := stB X0 hx hZ e0 Ar3a (j := (0 : Int32)) hin3 (g := (mkF m 31 #[.val (.ref cs), .val (.int (0 : Int32)), .val (.ref bs), .val (.int (0 : Int32)), .val (.int (3 : Int32)), .val (.int (0 : Int32)), .val (.int (own_ch u0))] [(.int ((own_lo u0).toInt32)), (.int (0 : Int32)), (.ref bs)])) rfl rfl (hb hby d8_31)
    rw [own_narb (own_lo u0)] at W3
    have V3_bs : Arv Z h3 bs kb .byte (3 : Int32) [(.int ((own_lo u0).toInt32)), (.int (0 : Int32)), (.int (0 : Int32))] (.int (0 : Int32)) := Arv.set Ar3a q3a S3a N3a H3a G3a (own_fitb _) W3 0 rfl (Nat.le_of_ble_eq_true rfl)
    have f3_Arv_cs := Vc.other W3 hne
    have O3 := O0.wr W3 ge_bs
    have Kk3 := (Keep.refl h0 [bs]).wr W3 (Or.inl (List.mem_singleton.mpr rfl))
    have N3 := Fr.snoc X3 N0 ge_bs
    refine Go.of (fun _ kz => st3 _ kz) ?_
    refine Go.of (fun _ kz => XS.iinc X3.here hx rfl (hb hby d8_32) rfl (l' := #[.val (.ref cs), .val (.int (1 : Int32)), .val (.ref bs), .val (.int (0 : Int32)), .val (.int (3 : Int32)), .val (.int (0 : Int32)), .val (.int (own_ch u0))]) rfl (XS.iinc X3.here hx rfl (hb hby d8_35) rfl (l' := #[.val (.ref cs), .val (.int (1 : Int32)), .val (.ref bs), .val (.int (1 : Int32)), .val (.int (3 : Int32)), .val (.int (0 : Int32)), .val (.int (own_ch u0))]) rfl (XS.iinc X3.here hx rfl (hb hby d8_38) rfl (l' := #[.val (.ref cs), .val (.int (1 : Int32)), .val (.ref bs), .val (.int (1 : Int32)), .val (.int (3 : Int32)), .val (.int (1 : Int32)), .val (.int (own_ch u0))]) rfl (XS.goto X3.here hx rfl (pc0 := 41) (pc' := 3) rfl (hb hby d8_41) (by decide) (by decide) (XS.iload X3.here hx rfl (hb hby d8_3) rfl (XS.iload X3.here hx rfl (hb hby d8_5) rfl kz)))))) ?_
    show Go _ _ _ _ _ T3 (mkF m 7 #[.val (.ref cs), .val (.int (1 : Int32)), .val (.ref bs), .val (.int (1 : Int32)), .val (.int (3 : Int32)), .val (.int (1 : Int32)), .val (.int (own_ch u0))] [(.int (3 : Int32)), (.int (1 : Int32))])
    refine Go.of (fun _ kz => XS.icmpNo X3.here hx rfl (hb hby d8_7) rfl (tlt (by decide : (1 : Int32) < (3 : Int32))).2.1 kz) ?_
    refine Go.of (fun _ kz => XS.aloadN X3.here hx rfl (hb hby d8_10) rfl rfl (XS.iloadN X3.here hx rfl (hb hby d8_11) rfl kz)) ?_
    obtain ⟨cl4a, Ar4a, q4a, S4a, N4a, H4a, G4a⟩ := id f3_Arv_cs
    have hin4 := inb_of S4a (j := (1 : Int32)) ⟨by decide, by decide⟩
    refine Go.of (fun _ kz => X3.caload hx (j := (1 : Int32)) (v := (.int (own_ch u1))) (by rw [e3]; exact Ar4a.1) (State.isArrayOf_alike hZ.alike Ar4a.2.1) Ar4a.2.2 hin4 (H4a.at hin4 rfl) (g := (mkF m 12 #[.val (.ref cs), .val (.int (1 : Int32)), .val (.ref bs), .val (.int (1 : Int32)), .val (.int (3 : Int32)), .val (.int (1 : Int32)), .val (.int (own_ch u0))] [(.int (1 : Int32)), (.ref cs)])) rfl rfl (hb hby d8_12) _ kz) ?_
    refine Go.of (fun _ kz => XS.istore X3.here hx rfl (hb hby d8_13) rfl (l' := #[.val (.ref cs), .val (.int (1 : Int32)), .val (.ref bs), .val (.int (1 : Int32)), .val (.int (3 : Int32)), .val (.int (1 : Int32)), .val (.int (own_ch u1))]) rfl (XS.iload X3.here hx rfl (hb hby d8_15) rfl (XS.sipush X3.here hx rfl (hb hby d8_17) kz))) ?_
    show Go _ _ _ _ _ T3 (mkF m 20 #[.val (.ref cs), .val (.int (1 : Int32)), .val (.ref bs), .val (.int (1 : Int32)), .val (.int (3 : Int32)), .val (.int (1 : Int32)), .val (.int (own_ch u1))] [(.int (255 : Int32)), (.int (own_ch u1))])
    by_cases hc20_5 : (255 : Int32) < (own_ch u1)
    · refine Go.of (fun _ kz => XS.icmpNo X3.here hx rfl (hb hby d8_20) rfl (tlt hc20_5).2.2.2 kz) ?_
      refine Go.of (fun _ kz => XS.iload X3.here hx rfl (hb hby d8_23) rfl kz) ?_
      refine Go.ret X3 (v := some (.int (1 : Int32))) (fun h => by rw [Bd.returns] at h; cases h) Bd.notSynchronized (fun fs hr => own_retI X3 hx Bd.returns (hb hby d8_25) hr) (by decide) (by decide) ?_
      show Q_rm_ci_3 Z _ _ _ _ _ _ _ h0 n0 _ T3.heap _
      rw [e3]
      exact ⟨_, rfl, N3, Kk3, Or.inr (Or.inr (Or.inl ⟨rfl, hc20_2, hc20_5⟩))⟩
    · refine Go.of (fun _ kz => XS.icmpYes X3.here hx rfl (pc0 := 20) (pc' := 26) rfl (hb hby d8_20) rfl (flt hc20_5).2.2.2 (by decide) (by decide) kz) ?_
      refine Go.of (fun _ kz => XS.aloadN X3.here hx rfl (hb hby d8_26) rfl rfl (XS.iloadN X3.here hx rfl (hb hby d8_27) rfl (XS.iload X3.here hx rfl (hb hby d8_28) rfl (XS.i2b X3.here hx rfl (hb hby d8_30) rfl kz)))) ?_
      obtain ⟨cl6a, Ar6a, q6a, S6a, N6a, H6a, G6a⟩ := id V3_bs
      have hin6 := inb_of S6a (j := (1 : Int32)) ⟨by decide, by decide⟩
      obtain ⟨T6, h6, X6, e6, W6, st6⟩ := stB X3 hx hZ e3 Ar6a (j := (1 : Int32)) hin6 (g := (mkF m 31 #[.val (.ref cs), .val (.int (1 : Int32)), .val (.ref bs), .val (.int (1 : Int32)), .val (.int (3 : Int32)), .val (.int (1 : Int32)), .val (.int (own_ch u1))] [(.int ((own_lo u1).toInt32)), (.int (1 : Int32)), (.ref bs)])) rfl rfl (hb hby d8_31)
      rw [own_narb (own_lo u1)] at W6
      have V6_bs : Arv Z h6 bs kb .byte (3 : Int32) [(.int ((own_lo u0).toInt32)), (.int ((own_lo u1).toInt32)), (.int (0 : Int32))] (.int (0 : Int32)) := Arv.set Ar6a q6a S6a N6a H6a G6a (own_fitb _) W6 1 rfl (Nat.le_of_ble_eq_true rfl)
      have f6_Arv_cs := f3_Arv_cs.other W6 hne
      have O6 := O3.wr W6 ge_bs
      have Kk6 := Kk3.wr W6 (Or.inl (List.mem_singleton.mpr rfl))
      have N6 := Fr.snoc X6 N3 ge_bs
      refine Go.of (fun _ kz => st6 _ kz) ?_
      refine Go.of (fun _ kz => XS.iinc X6.here hx rfl (hb hby d8_32) rfl (l' := #[.val (.ref cs), .val (.int (2 : Int32)), .val (.ref bs), .val (.int (1 : Int32)), .val (.int (3 : Int32)), .val (.int (1 : Int32)), .val (.int (own_ch u1))]) rfl (XS.iinc X6.here hx rfl (hb hby d8_35) rfl (l' := #[.val (.ref cs), .val (.int (2 : Int32)), .val (.ref bs), .val (.int (2 : Int32)), .val (.int (3 : Int32)), .val (.int (1 : Int32)), .val (.int (own_ch u1))]) rfl (XS.iinc X6.here hx rfl (hb hby d8_38) rfl (l' := #[.val (.ref cs), .val (.int (2 : Int32)), .val (.ref bs), .val (.int (2 : Int32)), .val (.int (3 : Int32)), .val (.int (2 : Int32)), .val (.int (own_ch u1))]) rfl (XS.goto X6.here hx rfl (pc0 := 41) (pc' := 3) rfl (hb hby d8_41) (by decide) (by decide) (XS.iload X6.here hx rfl (hb hby d8_3) rfl (XS.iload X6.here hx rfl (hb hby d8_5) rfl kz)))))) ?_
      show Go _ _ _ _ _ T6 (mkF m 7 #[.val (.ref cs), .val (.int (2 : Int32)), .val (.ref bs), .val (.int (2 : Int32)), .val (.int (3 : Int32)), .val (.int (2 : Int32)), .val (.int (own_ch u1))] [(.int (3 : Int32)), (.int (2 : Int32))])
      refine Go.of (fun _ kz => XS.icmpNo X6.here hx rfl (hb hby d8_7) rfl (tlt (by decide : (2 : Int32) < (3 : Int32))).2.1 kz) ?_
      refine Go.of (fun _ kz => XS.aloadN X6.here hx rfl (hb hby d8_10) rfl rfl (XS.iloadN X6.here hx rfl (hb hby d8_11) rfl kz)) ?_
      obtain ⟨cl7a, Ar7a, q7a, S7a, N7a, H7a, G7a⟩ := id f6_Arv_cs
      have hin7 := inb_of S7a (j := (2 : Int32)) ⟨by decide, by decide⟩
      refine Go.of (fun _ kz => X6.caload hx (j := (2 : Int32)) (v := (.int (own_ch u2))) (by rw [e6]; exact Ar7a.1) (State.isArrayOf_alike hZ.alike Ar7a.2.1) Ar7a.2.2 hin7 (H7a.at hin7 rfl) (g := (mkF m 12 #[.val (.ref cs), .val (.int (2 : Int32)), .val (.ref bs), .val (.int (2 : Int32)), .val (.int (3 : Int32)), .val (.int (2 : Int32)), .val (.int (own_ch u1))] [(.int (2 : Int32)), (.ref cs)])) rfl rfl (hb hby d8_12) _ kz) ?_
      refine Go.of (fun _ kz => XS.istore X6.here hx rfl (hb hby d8_13) rfl (l' := #[.val (.ref cs), .val (.int (2 : Int32)), .val (.ref bs), .val (.int (2 : Int32)), .val (.int (3 : Int32)), .val (.int (2 : Int32)), .val (.int (own_ch u2))]) rfl (XS.iload X6.here hx rfl (hb hby d8_15) rfl (XS.sipush X6.here hx rfl (hb hby d8_17) kz))) ?_
      show Go _ _ _ _ _ T6 (mkF m 20 #[.val (.ref cs), .val (.int (2 : Int32)), .val (.ref bs), .val (.int (2 : Int32)), .val (.int (3 : Int32)), .val (.int (2 : Int32)), .val (.int (own_ch u2))] [(.int (255 : Int32)), (.int (own_ch u2))])
      by_cases hc20_8 : (255 : Int32) < (own_ch u2)
      · refine Go.of (fun _ kz => XS.icmpNo X6.here hx rfl (hb hby d8_20) rfl (tlt hc20_8).2.2.2 kz) ?_
        refine Go.of (fun _ kz => XS.iload X6.here hx rfl (hb hby d8_23) rfl kz) ?_
        refine Go.ret X6 (v := some (.int (2 : Int32))) (fun h => by rw [Bd.returns] at h; cases h) Bd.notSynchronized (fun fs hr => own_retI X6 hx Bd.returns (hb hby d8_25) hr) (by decide) (by decide) ?_
        show Q_rm_ci_3 Z _ _ _ _ _ _ _ h0 n0 _ T6.heap _
        rw [e6]
        exact ⟨_, rfl, N6, Kk6, Or.inr (Or.inr (Or.inr (⟨rfl, hc20_2, hc20_5, hc20_8⟩)))⟩
      · refine Go.of (fun _ kz => XS.icmpYes X6.here hx rfl (pc0 := 20) (pc' := 26) rfl (hb hby d8_20) rfl (flt hc20_8).2.2.2 (by decide) (by decide) kz) ?_
        refine Go.of (fun _ kz => XS.aloadN X6.here hx rfl (hb hby d8_26) rfl rfl (XS.iloadN X6.here hx rfl (hb hby d8_27) rfl (XS.iload X6.here hx rfl (hb hby d8_28) rfl (XS.i2b X6.here hx rfl (hb hby d8_30) rfl kz)))) ?_
        obtain ⟨cl9a, Ar9a, q9a, S9a, N9a, H9a, G9a⟩ := id V6_bs
        have hin9 := inb_of S9a (j := (2 : Int32)) ⟨by decide, by decide⟩
        obtain ⟨T9, h9, X9, e9, W9, st9⟩ := stB X6 hx hZ e6 Ar9a (j := (2 : Int32)) hin9 (g := (mkF m 31 #[.val (.ref cs), .val (.int (2 : Int32)), .val (.ref bs), .val (.int (2 : Int32)), .val (.int (3 : Int32)), .val (.int (2 : Int32)), .val (.int (own_ch u2))] [(.int ((own_lo u2).toInt32)), (.int (2 : Int32)), (.ref bs)])) rfl rfl (hb hby d8_31)
        rw [own_narb (own_lo u2)] at W9
        have V9_bs : Arv Z h9 bs kb .byte (3 : Int32) [(.int ((own_lo u0).toInt32)), (.int ((own_lo u1).toInt32)), (.int ((own_lo u2).toInt32))] (.int (0 : Int32)) := Arv.set Ar9a q9a S9a N9a H9a G9a (own_fitb _) W9 2 rfl (Nat.le_of_ble_eq_true rfl)
        have f9_Arv_cs := f6_Arv_cs.other W9 hne
        have O9 := O6.wr W9 ge_bs
        have Kk9 := Kk6.wr W9 (Or.inl (List.mem_singleton.mpr rfl))
        have N9 := Fr.snoc X9 N6 ge_bs
        refine Go.of (fun _ kz => st9 _ kz) ?_
        refine Go.of (fun _ kz => XS.iinc X9.here hx rfl (hb hby d8_32) rfl (l' := #[.val (.ref cs), .val (.int (3 : Int32)), .val (.ref bs), .val (.int (2 : Int32)), .val (.int (3 : Int32)), .val (.int (2 : Int32)), .val (.int (own_ch u2))]) rfl (XS.iinc X9.here hx rfl (hb hby d8_35) rfl (l' := #[.val (.ref cs), .val (.int (3 : Int32)), .val (.ref bs), .val (.int (3 : Int32)), .val (.int (3 : Int32)), .val (.int (2 : Int32)), .val (.int (own_ch u2))]) rfl (XS.iinc X9.here hx rfl (hb hby d8_38) rfl (l' := #[.val (.ref cs), .val (.int (3 : Int32)), .val (.ref bs), .val (.int (3 : Int32)), .val (.int (3 : Int32)), .val (.int (3 : Int32)), .val (.int (own_ch u2))]) rfl (XS.goto X9.here hx rfl (pc0 := 41) (pc' := 3) rfl (hb hby d8_41) (by decide) (by decide) (XS.iload X9.here hx rfl (hb hby d8_3) rfl (XS.iload X9.here hx rfl (hb hby d8_5) rfl kz)))))) ?_
        show Go _ _ _ _ _ T9 (mkF m 7 #[.val (.ref cs), .val (.int (3 : Int32)), .val (.ref bs), .val (.int (3 : Int32)), .val (.int (3 : Int32)), .val (.int (3 : Int32)), .val (.int (own_ch u2))] [(.int (3 : Int32)), (.int (3 : Int32))])
        refine Go.of (fun _ kz => XS.icmpYes X9.here hx rfl (pc0 := 7) (pc' := 44) rfl (hb hby d8_7) rfl (flt (by decide : ¬ (3 : Int32) < (3 : Int32))).2.1 (by decide) (by decide) kz) ?_
        refine Go.of (fun _ kz => XS.iload X9.here hx rfl (hb hby d8_44) rfl kz) ?_
        refine Go.ret X9 (v := some (.int (3 : Int32))) (fun h => by rw [Bd.returns] at h; cases h) Bd.notSynchronized (fun fs hr => own_retI X9 hx Bd.returns (hb hby d8_46) hr) (by decide) (by decide) ?_
        show Q_rm_ci_3 Z _ _ _ _ _ _ _ h0 n0 _ T9.heap _
        rw [e9]
        exact ⟨_, rfl, N9, Kk9, Or.inl ⟨rfl, ⟨hc20_2, hc20_5, hc20_8⟩, V9_bs⟩⟩

theorem ef_rm_nbl_3 (m : MethodId) (x0 : Int32) : entryFrame m #[(.int x0)] 1 = mkF m 0 #[.val (.int x0)] [] := by first | (simp [entryFrame, mkF, argsToLocals, Value.category]; done) | rfl
def Q_rm_nbl_3 (Z : State)  (h0 : Heap) (n0 : Nat) (v : Option Value) (h : Heap) (L : List Loc) : Prop := v = some (.int (6 : Int32)) ∧ Fr n0 L ∧ h = h0
set_option maxRecDepth 65536 in
set_option maxHeartbeats 40000000 in
theorem rm_nbl_3 (l : Launch) (Z : State) (a0 : Array Value) (hw : ∀ d ∈ tables_1, d.before a0 Z = true) (wz : List Jvm.Cond)  (h0 : Heap) (n0 : Nat) (O0 : Old Z n0 h0) :
    MetFree l y_14 (head1 (Jvm.Cond.code y_14 jdk_52_method_3_code 1 (some .int) :: wz) ({ frames := 0, cells := 0, slots := 0, locals := 0 } : Room)) (fun aZ UZ => aZ = #[(.int (3 : Int32))] ∧ Z.Warmed39 UZ.vm ∧ UZ.heap = h0) (fun _ _ _ _ _ => True) (fun _ UZ oZ UY => ∃ vZ LZ, oZ = .returned vZ ∧ Q_rm_nbl_3 Z  h0 n0 vZ UY.heap LZ ∧ FrameEnd UZ oZ UY LZ ({ frames := 0, cells := 0, slots := 0, locals := 0 } : Room).cells ({ frames := 0, cells := 0, slots := 0, locals := 0 } : Room).slots) := by
  refine MetFree.of_bodySF (plainFor_of_name pn_19) hisR ?_
  intro p e s m args below meth c s₁ Bd hml0 hP hK
  obtain ⟨rfl, hZ, hh⟩ := hP
  have hx := Bd.exec
  have hby := Bd.bytes
  have hml : c.maxLocals = 1 := hml0
  have hown : s.vm.findClass "java/lang/StringUTF16" = some m.cls := findClass_of_methodNamed Bd.named
  have hnm := (name_of_methodNamed Bd.named Bd.method).1
  have X0 : Stand p l e ({ frames := 0, cells := 0, slots := 0, locals := 0 } : Room) s m #[(.int (3 : Int32))] below meth c s₁ [] 0 0 := Stand.of_body Bd
  have e0 : s₁.heap = h0 := by rw [← hh, Bd.state]; rfl
  have N0 := Fr.nil n0
  have Z0 : n0 ≤ h0.size := O0.1 ▸ O0.2.1
  have K0 := Keep.refl h0 []
  show Go p e below (fun oW tW LW => FrameEnd s oW tW LW ({ frames := 0, cells := 0, slots := 0, locals := 0 } : Room).cells ({ frames := 0, cells := 0, slots := 0, locals := 0 } : Room).slots) (Q_rm_nbl_3 Z  h0 n0) s₁ (entryFrame m #[(.int (3 : Int32))] 1)
  refine Go.of (fun t kz => castTop (ef_rm_nbl_3 m (3 : Int32)) kz) ?_
  show Go _ _ _ _ _ s₁ (mkF m 0 #[.val (.int (3 : Int32))] [])
  refine Go.of (fun _ kz => XS.iloadN X0.here hx rfl (hb hby d19_0) rfl kz) ?_
  refine Go.of (fun _ kz => XS.ifYes X0.here hx rfl (pc0 := 1) (pc' := 12) rfl (hb hby d19_1) rfl ((if0 _ _).trans (flt (by decide : ¬ (3 : Int32) < (0 : Int32))).2.1) (by decide) (by decide) kz) ?_
  refine Go.of (fun _ kz => XS.iloadN X0.here hx rfl (hb hby d19_12) rfl (X0.ldcInt hx hown (mvT hZ (w85 hw)) (g := (mkF m 13 #[.val (.int (3 : Int32))] [(.int (3 : Int32))])) rfl (hb hby d19_13) _ kz)) ?_
  refine Go.of (fun _ kz => XS.icmpYes X0.here hx rfl (pc0 := 15) (pc' := 55) rfl (hb hby d19_15) rfl (tlt (by decide : (3 : Int32) < (1073741823 : Int32))).1 (by decide) (by decide) kz) ?_
  refine Go.of (fun _ kz => XS.iloadN X0.here hx rfl (hb hby d19_55) rfl (XS.iconst X0.here hx rfl (hb hby d19_56) (XS.ishl X0.here hx rfl (hb hby d19_57) rfl kz))) ?_
  show Go _ _ _ _ _ s₁ (mkF m 58 #[.val (.int (3 : Int32))] [(.int ((3 : Int32) <<< ((1 : Int32) &&& 31)))])
  rw [(by decide : ((3 : Int32) <<< ((1 : Int32) &&& 31)) = (6 : Int32))]
  show Go _ _ _ _ _ s₁ (mkF m 58 #[.val (.int (3 : Int32))] [(.int (6 : Int32))])
  refine Go.ret X0 (v := some (.int (6 : Int32))) (fun h => by rw [Bd.returns] at h; cases h) Bd.notSynchronized (fun fs hr => own_retI X0 hx Bd.returns (hb hby d19_58) hr) (by decide) (by decide) ?_
  show Q_rm_nbl_3 Z  h0 n0 _ s₁.heap _
  rw [e0]
  exact ⟨rfl, N0, rfl⟩

theorem ef_rm_nbf_3 (m : MethodId) (x0 : Int32) : entryFrame m #[(.int x0)] 1 = mkF m 0 #[.val (.int x0)] [] := by first | (simp [entryFrame, mkF, argsToLocals, Value.category]; done) | rfl
def Q_rm_nbf_3 (Z : State)  (h0 : Heap) (n0 : Nat) (v : Option Value) (h : Heap) (L : List Loc) : Prop := ∃ (b : Addr) (kb : ClassId), v = some (.ref b) ∧ Fr n0 L ∧ Keep h0 h [] ∧ h0.size ≤ b ∧ Arv Z h b kb .byte (6 : Int32) [(.int (0 : Int32)), (.int (0 : Int32)), (.int (0 : Int32)), (.int (0 : Int32)), (.int (0 : Int32)), (.int (0 : Int32))] (.int (0 : Int32))
set_option maxRecDepth 65536 in
set_option maxHeartbeats 40000000 in
theorem rm_nbf_3 (l : Launch) (Z : State) (a0 : Array Value) (hw : ∀ d ∈ tables_1, d.before a0 Z = true) (wz : List Jvm.Cond)  (h0 : Heap) (n0 : Nat) (O0 : Old Z n0 h0) :
    MetFree l y_15 (head1 (Jvm.Cond.code y_15 jdk_52_method_2_code 1 (some (.array .byte)) :: wz) ({ frames := 1, cells := 1, slots := 6, locals := 12 } : Room)) (fun aZ UZ => aZ = #[(.int (3 : Int32))] ∧ Z.Warmed39 UZ.vm ∧ UZ.heap = h0) (fun _ _ _ _ _ => True) (fun _ UZ oZ UY => ∃ vZ LZ, oZ = .returned vZ ∧ Q_rm_nbf_3 Z  h0 n0 vZ UY.heap LZ ∧ FrameEnd UZ oZ UY LZ ({ frames := 1, cells := 1, slots := 6, locals := 12 } : Room).cells ({ frames := 1, cells := 1, slots := 6, locals := 12 } : Room).slots) := by
  refine MetFree.of_bodySF (plainFor_of_name pn_18) hisR ?_
  intro p e s m args below meth c s₁ Bd hml0 hP hK
  obtain ⟨rfl, hZ, hh⟩ := hP
  have hx := Bd.exec
  have hby := Bd.bytes
  have hml : c.maxLocals = 1 := hml0
  have hown : s.vm.findClass "java/lang/StringUTF16" = some m.cls := findClass_of_methodNamed Bd.named
  have hnm := (name_of_methodNamed Bd.named Bd.method).1
  have X0 : Stand p l e ({ frames := 1, cells := 1, slots := 6, locals := 12 } : Room) s m #[(.int (3 : Int32))] below meth c s₁ [] 0 0 := Stand.of_body Bd
  have e0 : s₁.heap = h0 := by rw [← hh, Bd.state]; rfl
  have N0 := Fr.nil n0
  have Z0 : n0 ≤ h0.size := O0.1 ▸ O0.2.1
  have K0 := Keep.refl h0 []
  show Go p e below (fun oW tW LW => FrameEnd s oW tW LW ({ frames := 1, cells := 1, slots := 6, locals := 12 } : Room).cells ({ frames := 1, cells := 1, slots := 6, locals := 12 } : Room).slots) (Q_rm_nbf_3 Z  h0 n0) s₁ (entryFrame m #[(.int (3 : Int32))] 1)
  refine Go.of (fun t kz => castTop (ef_rm_nbf_3 m (3 : Int32)) kz) ?_
  show Go _ _ _ _ _ s₁ (mkF m 0 #[.val (.int (3 : Int32))] [])
  refine Go.of (fun _ kz => XS.iloadN X0.here hx rfl (hb hby d18_0) rfl kz) ?_
  show Go _ _ _ _ _ s₁ (mkF m 1 #[.val (.int (3 : Int32))] [(.int (3 : Int32))])
  refine Go.callS X0 hx hZ hown (y := y_14) (w82 hw) (w83 hw) (w40 hw) (w84 hw) (by decide) (rm_nbl_3 l Z a0 hw [] h0 n0 O0) e0 0 (by decide) (by decide) (by rw [hml]; rfl) (argsL := [(.int (3 : Int32))]) (rest := []) (lenOf pd_7 rfl) rfl rfl (Nat.le_of_eq rfl) (hb hby d18_1) (c2 := 0) (s2 := 0) rfl rfl (by decide) (by decide) fun v1 T1 Lc1 L1 X1 l1 hQ1 => ?_
  obtain ⟨rfl, N1q, e1⟩ := hQ1
  have N1 : Fr n0 L1 := by rw [l1]; exact Fr.app N0 N1q
  obtain ⟨T2, h2, k2, X2, e2, E2, A2, st2⟩ := newP (aty := .byte) X1 hx hZ (w21 hw) e1 (g := (mkF m 4 #[.val (.int (3 : Int32))] [(.int (6 : Int32))])) rfl (hb hby d18_4) rfl (by decide) (cap := 6) (by decide) (by decide) (by decide) (by decide)
  obtain ⟨b2, g2⟩ : ∃ z, z = h0.size := ⟨_, rfl⟩
  rw [← g2] at A2 st2
  have ge_b2 : n0 ≤ b2 := Nat.le_trans (O0.1 ▸ O0.2.1) (Nat.le_of_eq g2.symm)
  have hsz_b2 := Nat.le_of_eq g2.symm
  have sz_b2 : h0.size ≤ b2 := Nat.le_trans (Keep.refl h0 []).1 (Nat.le_of_eq g2.symm)
  have O2 := O0.ext E2
  have Kk2 := (Keep.refl h0 []).ext E2
  have V_b2 : Arv Z h2 b2 k2 .byte (6 : Int32) [(.int (0 : Int32)), (.int (0 : Int32)), (.int (0 : Int32)), (.int (0 : Int32)), (.int (0 : Int32)), (.int (0 : Int32))] (.int (0 : Int32)) := (Arv.new A2 (by decide)).pad (pad_rep [] (.int (0 : Int32)) 6)
  refine Go.of (fun _ kz => st2 _ kz) ?_
  refine Go.ret X2 (v := some (.ref b2)) (fun h => by rw [Bd.returns] at h; cases h) Bd.notSynchronized (fun fs hr => retOut X2 hx Bd.returns rfl (Or.inr (Or.inr (Or.inr (Or.inr ⟨rfl, rfl, rfl⟩)))) (hb hby d18_6) hr) (by decide) (by decide) ?_
  show Q_rm_nbf_3 Z  h0 n0 _ T2.heap _
  rw [e2]
  exact ⟨_, _, rfl, N1, Kk2, sz_b2, V_b2⟩

theorem ef_rm_tob_3 (m : MethodId) (x0 : Addr) (x1 : Int32) (x2 : Int32) : entryFrame m #[(.ref x0), (.int x1), (.int x2)] 5 = mkF m 0 #[.val (.ref x0), .val (.int x1), .val (.int x2), .unset, .unset] [] := by first | (simp [entryFrame, mkF, argsToLocals, Value.category]; done) | rfl
def Q_rm_tob_3 (Z : State) (cs : Addr) (kc : ClassId) (u0 : UInt16) (u1 : UInt16) (u2 : UInt16) (h0 : Heap) (n0 : Nat) (v : Option Value) (h : Heap) (L : List Loc) : Prop := ∃ (b : Addr) (kb : ClassId), v = some (.ref b) ∧ Fr n0 L ∧ Keep h0 h [] ∧ h0.size ≤ b ∧ Arv Z h b kb .byte (6 : Int32) [(.int ((own_lo0 u0).toInt32)), (.int ((own_hi8 u0).toInt32)), (.int ((own_lo0 u1).toInt32)), (.int ((own_hi8 u1).toInt32)), (.int ((own_lo0 u2).toInt32)), (.int ((own_hi8 u2).toInt32))] (.int (0 : Int32))
set_option maxRecDepth 65536 in
set_option maxHeartbeats 40000000 in
theorem rm_tob_3 (l : Launch) (Z : State) (a0 : Array Value) (hw : ∀ d ∈ tables_1, d.before a0 Z = true) (wz : List Jvm.Cond) (cs : Addr) (kc : ClassId) (u0 : UInt16) (u1 : UInt16) (u2 : UInt16) (h0 : Heap) (n0 : Nat) (O0 : Old Z n0 h0) (Vc : Arv Z h0 cs kc .char (3 : Int32) [(.int (own_ch u0)), (.int (own_ch u1)), (.int (own_ch u2))] (.int (0 : Int32))) (Sas : Sta Z Z.heap "java/lang/StringUTF16" "$assertionsDisabled" "Z" (.int (1 : Int32))) (Shi : Sta Z Z.heap "java/lang/StringUTF16" "HI_BYTE_SHIFT" "I" (.int (0 : Int32))) (Slo : Sta Z Z.heap "java/lang/StringUTF16" "LO_BYTE_SHIFT" "I" (.int (8 : Int32))) :
    MetFree l y_16 (head1 (Jvm.Cond.code y_16 jdk_52_method_14_code 5 (some (.array .byte)) :: wz) ({ frames := 2, cells := 1, slots := 6, locals := 24 } : Room)) (fun aZ UZ => aZ = #[(.ref cs), (.int (0 : Int32)), (.int (3 : Int32))] ∧ Z.Warmed39 UZ.vm ∧ UZ.heap = h0) (fun _ _ _ _ _ => True) (fun _ UZ oZ UY => ∃ vZ LZ, oZ = .returned vZ ∧ Q_rm_tob_3 Z cs kc u0 u1 u2 h0 n0 vZ UY.heap LZ ∧ FrameEnd UZ oZ UY LZ ({ frames := 2, cells := 1, slots := 6, locals := 24 } : Room).cells ({ frames := 2, cells := 1, slots := 6, locals := 24 } : Room).slots) := by
  refine MetFree.of_bodySF (plainFor_of_name pn_17) hisR ?_
  intro p e s m args below meth c s₁ Bd hml0 hP hK
  obtain ⟨rfl, hZ, hh⟩ := hP
  have hx := Bd.exec
  have hby := Bd.bytes
  have hml : c.maxLocals = 5 := hml0
  have hown : s.vm.findClass "java/lang/StringUTF16" = some m.cls := findClass_of_methodNamed Bd.named
  have hnm := (name_of_methodNamed Bd.named Bd.method).1
  have X0 : Stand p l e ({ frames := 2, cells := 1, slots := 6, locals := 24 } : Room) s m #[(.ref cs), (.int (0 : Int32)), (.int (3 : Int32))] below meth c s₁ [] 0 0 := Stand.of_body Bd
  have e0 : s₁.heap = h0 := by rw [← hh, Bd.state]; rfl
  have N0 := Fr.nil n0
  have Z0 : n0 ≤ h0.size := O0.1 ▸ O0.2.1
  have K0 := Keep.refl h0 []
  show Go p e below (fun oW tW LW => FrameEnd s oW tW LW ({ frames := 2, cells := 1, slots := 6, locals := 24 } : Room).cells ({ frames := 2, cells := 1, slots := 6, locals := 24 } : Room).slots) (Q_rm_tob_3 Z cs kc u0 u1 u2 h0 n0) s₁ (entryFrame m #[(.ref cs), (.int (0 : Int32)), (.int (3 : Int32))] 5)
  refine Go.of (fun t kz => castTop (ef_rm_tob_3 m cs (0 : Int32) (3 : Int32)) kz) ?_
  show Go _ _ _ _ _ s₁ (mkF m 0 #[.val (.ref cs), .val (.int (0 : Int32)), .val (.int (3 : Int32)), .unset, .unset] [])
  refine Go.of (fun _ kz => XS.iloadN X0.here hx rfl (hb hby d17_0) rfl kz) ?_
  show Go _ _ _ _ _ s₁ (mkF m 1 #[.val (.ref cs), .val (.int (0 : Int32)), .val (.int (3 : Int32)), .unset, .unset] [(.int (3 : Int32))])
  refine Go.callS X0 hx hZ hown (y := y_15) (w79 hw) (w80 hw) (w40 hw) (w81 hw) (by decide) (rm_nbf_3 l Z a0 hw [] h0 n0 O0) e0 0 (by decide) (by decide) (by rw [hml]; rfl) (argsL := [(.int (3 : Int32))]) (rest := []) (lenOf pd_8 rfl) rfl rfl (Nat.le_of_eq rfl) (hb hby d17_1) (c2 := 1) (s2 := 6) rfl rfl (by decide) (by decide) fun v1 T1 Lc1 L1 X1 l1 hQ1 => ?_
  obtain ⟨b1, kb1, rfl, N1q, K1, hsz1, V1⟩ := hQ1
  have N1 : Fr n0 L1 := by rw [l1]; exact Fr.app N0 N1q
  have ge_b1 : n0 ≤ b1 := Nat.le_trans (O0.1 ▸ O0.2.1) hsz1
  have sz_b1 : h0.size ≤ b1 := Nat.le_trans (Keep.refl h0 []).1 hsz1
  have ne_cs_b1 : cs ≠ b1 := Nat.ne_of_lt (Nat.lt_of_lt_of_le Vc.lt hsz1)
  have f1_Arv_cs := Vc.keep K1 nin0
  have O1 := O0.keep K1 all0
  have Kk1 := (Keep.refl h0 []).trans K1 all0
  refine Go.of (fun _ kz => XS.astoreN X1.here hx rfl (hb hby d17_4) rfl rfl (l' := #[.val (.ref cs), .val (.int (0 : Int32)), .val (.int (3 : Int32)), .val (.ref b1), .unset]) rfl (XS.iconst X1.here hx rfl (hb hby d17_5) (XS.istore X1.here hx rfl (hb hby d17_6) rfl (l' := #[.val (.ref cs), .val (.int (0 : Int32)), .val (.int (3 : Int32)), .val (.ref b1), .val (.int (0 : Int32))]) rfl (XS.iload X1.here hx rfl (hb hby d17_8) rfl (XS.iloadN X1.here hx rfl (hb hby d17_10) rfl kz))))) ?_
  refine Go.of (fun _ kz => XS.icmpNo X1.here hx rfl (hb hby d17_11) rfl (tlt (by decide : (0 : Int32) < (3 : Int32))).2.1 kz) ?_
  show Go _ _ _ _ _ T1 (mkF m 14 #[.val (.ref cs), .val (.int (0 : Int32)), .val (.int (3 : Int32)), .val (.ref b1), .val (.int (0 : Int32))] [])
  refine Go.of (fun _ kz => XS.aloadN X1.here hx rfl (hb hby d17_14) rfl rfl (XS.iload X1.here hx rfl (hb hby d17_15) rfl (XS.aloadN X1.here hx rfl (hb hby d17_17) rfl rfl (XS.iloadN X1.here hx rfl (hb hby d17_18) rfl kz)))) ?_
  obtain ⟨cl2a, Ar2a, q2a, S2a, N2a, H2a, G2a⟩ := id f1_Arv_cs
  have hin2 := inb_of S2a (j := (0 : Int32)) ⟨by decide, by decide⟩
  refine Go.of (fun _ kz => X1.caload hx (j := (0 : Int32)) (v := (.int (own_ch u0))) Ar2a.1 (State.isArrayOf_alike hZ.alike Ar2a.2.1) Ar2a.2.2 hin2 (H2a.at hin2 rfl) (g := (mkF m 19 #[.val (.ref cs), .val (.int (0 : Int32)), .val (.int (3 : Int32)), .val (.ref b1), .val (.int (0 : Int32))] [(.int (0 : Int32)), (.ref cs), (.int (0 : Int32)), (.ref b1)])) rfl rfl (hb hby d17_19) _ kz) ?_
  show Go _ _ _ _ _ T1 (mkF m 20 #[.val (.ref cs), .val (.int (0 : Int32)), .val (.int (3 : Int32)), .val (.ref b1), .val (.int (0 : Int32))] [(.int (own_ch u0)), (.int (0 : Int32)), (.ref b1)])
  refine Go.callS X1 hx hZ hown (y := y_12) (w86 hw) (w87 hw) (w40 hw) (w88 hw) (by decide) (rm_put l Z a0 hw [] b1 (0 : Int32) (own_ch u0) kb1 (6 : Int32) [(.int (0 : Int32)), (.int (0 : Int32)), (.int (0 : Int32)), (.int (0 : Int32)), (.int (0 : Int32)), (.int (0 : Int32))] (own_lo0 u0) (own_hi8 u0) 0 T1.heap n0 O1 V1 Sas Shi Slo ge_b1 ⟨by decide, by decide⟩ ⟨by decide, by decide⟩ (by decide) (by decide) (Nat.le_of_ble_eq_true rfl) (Nat.le_of_ble_eq_true rfl) rfl rfl) rfl 0 (by decide) (by decide) (by rw [hml]; rfl) (argsL := [(.ref b1), (.int (0 : Int32)), (.int (own_ch u0))]) (rest := []) (lenOf pd_9 rfl) rfl rfl (Nat.le_of_eq rfl) (hb hby d17_20) (c2 := 1) (s2 := 6) rfl rfl (by decide) (by decide) fun v3 T3 Lc3 L3 X3 l3 hQ3 => ?_
  obtain ⟨rfl, N3q, K3, V3⟩ := hQ3
  have N3 : Fr n0 L3 := by rw [l3]; exact Fr.app N1 N3q
  have f3_Arv_cs := f1_Arv_cs.keep K3 (ninS ne_cs_b1 nin0)
  have O3 := O1.keep K3 (allS ge_b1 all0)
  have Kk3 := Kk1.trans K3 (allS (Or.inr sz_b1) all0)
  have V3c : Arv Z T3.heap b1 kb1 .byte (6 : Int32) [(.int ((own_lo0 u0).toInt32)), (.int ((own_hi8 u0).toInt32)), (.int (0 : Int32)), (.int (0 : Int32)), (.int (0 : Int32)), (.int (0 : Int32))] (.int (0 : Int32)) := V3
  refine Go.of (fun _ kz => XS.iinc X3.here hx rfl (hb hby d17_23) rfl (l' := #[.val (.ref cs), .val (.int (1 : Int32)), .val (.int (3 : Int32)), .val (.ref b1), .val (.int (0 : Int32))]) rfl (XS.iinc X3.here hx rfl (hb hby d17_26) rfl (l' := #[.val (.ref cs), .val (.int (1 : Int32)), .val (.int (3 : Int32)), .val (.ref b1), .val (.int (1 : Int32))]) rfl (XS.goto X3.here hx rfl (pc0 := 29) (pc' := 8) rfl (hb hby d17_29) (by decide) (by decide) (XS.iload X3.here hx rfl (hb hby d17_8) rfl (XS.iloadN X3.here hx rfl (hb hby d17_10) rfl kz))))) ?_
  refine Go.of (fun _ kz => XS.icmpNo X3.here hx rfl (hb hby d17_11) rfl (tlt (by decide : (1 : Int32) < (3 : Int32))).2.1 kz) ?_
  show Go _ _ _ _ _ T3 (mkF m 14 #[.val (.ref cs), .val (.int (1 : Int32)), .val (.int (3 : Int32)), .val (.ref b1), .val (.int (1 : Int32))] [])
  refine Go.of (fun _ kz => XS.aloadN X3.here hx rfl (hb hby d17_14) rfl rfl (XS.iload X3.here hx rfl (hb hby d17_15) rfl (XS.aloadN X3.here hx rfl (hb hby d17_17) rfl rfl (XS.iloadN X3.here hx rfl (hb hby d17_18) rfl kz)))) ?_
  obtain ⟨cl4a, Ar4a, q4a, S4a, N4a, H4a, G4a⟩ := id f3_Arv_cs
  have hin4 := inb_of S4a (j := (1 : Int32)) ⟨by decide, by decide⟩
  refine Go.of (fun _ kz => X3.caload hx (j := (1 : Int32)) (v := (.int (own_ch u1))) Ar4a.1 (State.isArrayOf_alike hZ.alike Ar4a.2.1) Ar4a.2.2 hin4 (H4a.at hin4 rfl) (g := (mkF m 19 #[.val (.ref cs), .val (.int (1 : Int32)), .val (.int (3 : Int32)), .val (.ref b1), .val (.int (1 : Int32))] [(.int (1 : Int32)), (.ref cs), (.int (1 : Int32)), (.ref b1)])) rfl rfl (hb hby d17_19) _ kz) ?_
  show Go _ _ _ _ _ T3 (mkF m 20 #[.val (.ref cs), .val (.int (1 : Int32)), .val (.int (3 : Int32)), .val (.ref b1), .val (.int (1 : Int32))] [(.int (own_ch u1)), (.int (1 : Int32)), (.ref b1)])
  refine Go.callS X3 hx hZ hown (y := y_12) (w86 hw) (w87 hw) (w40 hw) (w88 hw) (by decide) (rm_put l Z a0 hw [] b1 (1 : Int32) (own_ch u1) kb1 (6 : Int32) [(.int ((own_lo0 u0).toInt32)), (.int ((own_hi8 u0).toInt32)), (.int (0 : Int32)), (.int (0 : Int32)), (.int (0 : Int32)), (.int (0 : Int32))] (own_lo0 u1) (own_hi8 u1) 2 T3.heap n0 O3 V3c Sas Shi Slo ge_b1 ⟨by decide, by decide⟩ ⟨by decide, by decide⟩ (by decide) (by decide) (Nat.le_of_ble_eq_true rfl) (Nat.le_of_ble_eq_true rfl) rfl rfl) rfl 0 (by decide) (by decide) (by rw [hml]; rfl) (argsL := [(.ref b1), (.int (1 : Int32)), (.int (own_ch u1))]) (rest := []) (lenOf pd_9 rfl) rfl rfl (Nat.le_of_eq rfl) (hb hby d17_20) (c2 := 1) (s2 := 6) rfl rfl (by decide) (by decide) fun v5 T5 Lc5 L5 X5 l5 hQ5 => ?_
  obtain ⟨rfl, N5q, K5, V5⟩ := hQ5
  have N5 : Fr n0 L5 := by rw [l5]; exact Fr.app N3 N5q
  have f5_Arv_cs := f3_Arv_cs.keep K5 (ninS ne_cs_b1 nin0)
  have O5 := O3.keep K5 (allS ge_b1 all0)
  have Kk5 := Kk3.trans K5 (allS (Or.inr sz_b1) all0)
  have V5c : Arv Z T5.heap b1 kb1 .byte (6 : Int32) [(.int ((own_lo0 u0).toInt32)), (.int ((own_hi8 u0).toInt32)), (.int ((own_lo0 u1).toInt32)), (.int ((own_hi8 u1).toInt32)), (.int (0 : Int32)), (.int (0 : Int32))] (.int (0 : Int32)) := V5
  refine Go.of (fun _ kz => XS.iinc X5.here hx rfl (hb hby d17_23) rfl (l' := #[.val (.ref cs), .val (.int (2 : Int32)), .val (.int (3 : Int32)), .val (.ref b1), .val (.int (1 : Int32))]) rfl (XS.iinc X5.here hx rfl (hb hby d17_26) rfl (l' := #[.val (.ref cs), .val (.int (2 : Int32)), .val (.int (3 : Int32)), .val (.ref b1), .val (.int (2 : Int32))]) rfl (XS.goto X5.here hx rfl (pc0 := 29) (pc' := 8) rfl (hb hby d17_29) (by decide) (by decide) (XS.iload X5.here hx rfl (hb hby d17_8) rfl (XS.iloadN X5.here hx rfl (hb hby d17_10) rfl kz))))) ?_
  refine Go.of (fun _ kz => XS.icmpNo X5.here hx rfl (hb hby d17_11) rfl (tlt (by decide : (2 : Int32) < (3 : Int32))).2.1 kz) ?_
  show Go _ _ _ _ _ T5 (mkF m 14 #[.val (.ref cs), .val (.int (2 : Int32)), .val (.int (3 : Int32)), .val (.ref b1), .val (.int (2 : Int32))] [])
  refine Go.of (fun _ kz => XS.aloadN X5.here hx rfl (hb hby d17_14) rfl rfl (XS.iload X5.here hx rfl (hb hby d17_15) rfl (XS.aloadN X5.here hx rfl (hb hby d17_17) rfl rfl (XS.iloadN X5.here hx rfl (hb hby d17_18) rfl kz)))) ?_
  obtain ⟨cl6a, Ar6a, q6a, S6a, N6a, H6a, G6a⟩ := id f5_Arv_cs
  have hin6 := inb_of S6a (j := (2 : Int32)) ⟨by decide, by decide⟩
  refine Go.of (fun _ kz => X5.caload hx (j := (2 : Int32)) (v := (.int (own_ch u2))) Ar6a.1 (State.isArrayOf_alike hZ.alike Ar6a.2.1) Ar6a.2.2 hin6 (H6a.at hin6 rfl) (g := (mkF m 19 #[.val (.ref cs), .val (.int (2 : Int32)), .val (.int (3 : Int32)), .val (.ref b1), .val (.int (2 : Int32))] [(.int (2 : Int32)), (.ref cs), (.int (2 : Int32)), (.ref b1)])) rfl rfl (hb hby d17_19) _ kz) ?_
  show Go _ _ _ _ _ T5 (mkF m 20 #[.val (.ref cs), .val (.int (2 : Int32)), .val (.int (3 : Int32)), .val (.ref b1), .val (.int (2 : Int32))] [(.int (own_ch u2)), (.int (2 : Int32)), (.ref b1)])
  refine Go.callS X5 hx hZ hown (y := y_12) (w86 hw) (w87 hw) (w40 hw) (w88 hw) (by decide) (rm_put l Z a0 hw [] b1 (2 : Int32) (own_ch u2) kb1 (6 : Int32) [(.int ((own_lo0 u0).toInt32)), (.int ((own_hi8 u0).toInt32)), (.int ((own_lo0 u1).toInt32)), (.int ((own_hi8 u1).toInt32)), (.int (0 : Int32)), (.int (0 : Int32))] (own_lo0 u2) (own_hi8 u2) 4 T5.heap n0 O5 V5c Sas Shi Slo ge_b1 ⟨by decide, by decide⟩ ⟨by decide, by decide⟩ (by decide) (by decide) (Nat.le_of_ble_eq_true rfl) (Nat.le_of_ble_eq_true rfl) rfl rfl) rfl 0 (by decide) (by decide) (by rw [hml]; rfl) (argsL := [(.ref b1), (.int (2 : Int32)), (.int (own_ch u2))]) (rest := []) (lenOf pd_9 rfl) rfl rfl (Nat.le_of_eq rfl) (hb hby d17_20) (c2 := 1) (s2 := 6) rfl rfl (by decide) (by decide) fun v7 T7 Lc7 L7 X7 l7 hQ7 => ?_
  obtain ⟨rfl, N7q, K7, V7⟩ := hQ7
  have N7 : Fr n0 L7 := by rw [l7]; exact Fr.app N5 N7q
  have f7_Arv_cs := f5_Arv_cs.keep K7 (ninS ne_cs_b1 nin0)
  have O7 := O5.keep K7 (allS ge_b1 all0)
  have Kk7 := Kk5.trans K7 (allS (Or.inr sz_b1) all0)
  have V7c : Arv Z T7.heap b1 kb1 .byte (6 : Int32) [(.int ((own_lo0 u0).toInt32)), (.int ((own_hi8 u0).toInt32)), (.int ((own_lo0 u1).toInt32)), (.int ((own_hi8 u1).toInt32)), (.int ((own_lo0 u2).toInt32)), (.int ((own_hi8 u2).toInt32))] (.int (0 : Int32)) := V7
  refine Go.of (fun _ kz => XS.iinc X7.here hx rfl (hb hby d17_23) rfl (l' := #[.val (.ref cs), .val (.int (3 : Int32)), .val (.int (3 : Int32)), .val (.ref b1), .val (.int (2 : Int32))]) rfl (XS.iinc X7.here hx rfl (hb hby d17_26) rfl (l' := #[.val (.ref cs), .val (.int (3 : Int32)), .val (.int (3 : Int32)), .val (.ref b1), .val (.int (3 : Int32))]) rfl (XS.goto X7.here hx rfl (pc0 := 29) (pc' := 8) rfl (hb hby d17_29) (by decide) (by decide) (XS.iload X7.here hx rfl (hb hby d17_8) rfl (XS.iloadN X7.here hx rfl (hb hby d17_10) rfl kz))))) ?_
  refine Go.of (fun _ kz => XS.icmpYes X7.here hx rfl (pc0 := 11) (pc' := 32) rfl (hb hby d17_11) rfl (flt (by decide : ¬ (3 : Int32) < (3 : Int32))).2.1 (by decide) (by decide) kz) ?_
  show Go _ _ _ _ _ T7 (mkF m 32 #[.val (.ref cs), .val (.int (3 : Int32)), .val (.int (3 : Int32)), .val (.ref b1), .val (.int (3 : Int32))] [])
  refine Go.of (fun _ kz => XS.aloadN X7.here hx rfl (hb hby d17_32) rfl rfl kz) ?_
  refine Go.ret X7 (v := some (.ref b1)) (fun h => by rw [Bd.returns] at h; cases h) Bd.notSynchronized (fun fs hr => retOut X7 hx Bd.returns rfl (Or.inr (Or.inr (Or.inr (Or.inr ⟨rfl, rfl, rfl⟩)))) (hb hby d17_33) hr) (by decide) (by decide) ?_
  show Q_rm_tob_3 Z _ _ _ _ _ h0 n0 _ T7.heap _
  exact ⟨_, _, rfl, N7, Kk7, sz_b1, V7c⟩

theorem ef_rm_co_3 (m : MethodId) (x0 : Addr) (x1 : Int32) (x2 : Int32) : entryFrame m #[(.ref x0), (.int x1), (.int x2)] 6 = mkF m 0 #[.val (.ref x0), .val (.int x1), .val (.int x2), .unset, .unset, .unset] [] := by first | (simp [entryFrame, mkF, argsToLocals, Value.category]; done) | rfl
def Q_rm_co_3 (Z : State) (cs : Addr) (kc : ClassId) (u0 : UInt16) (u1 : UInt16) (u2 : UInt16) (h0 : Heap) (n0 : Nat) (v : Option Value) (h : Heap) (L : List Loc) : Prop := ∃ (b : Addr) (kb : ClassId) (z : Int32) (vs : List Value), v = some (.ref b) ∧ Fr n0 L ∧ Keep h0 h [] ∧ h0.size ≤ b ∧ Arv Z h b kb .byte z vs (.int (0 : Int32)) ∧ ((z = (3 : Int32) ∧ vs = [(.int ((own_lo u0).toInt32)), (.int ((own_lo u1).toInt32)), (.int ((own_lo u2).toInt32))] ∧ (¬ (255 : Int32) < (own_ch u0) ∧ ¬ (255 : Int32) < (own_ch u1) ∧ ¬ (255 : Int32) < (own_ch u2))) ∨ (z = (6 : Int32) ∧ vs = [(.int ((own_lo0 u0).toInt32)), (.int ((own_hi8 u0).toInt32)), (.int ((own_lo0 u1).toInt32)), (.int ((own_hi8 u1).toInt32)), (.int ((own_lo0 u2).toInt32)), (.int ((own_hi8 u2).toInt32))]))
set_option maxRecDepth 65536 in
set_option maxHeartbeats 40000000 in
theorem rm_co_3 (l : Launch) (Z : State) (a0 : Array Value) (hw : ∀ d ∈ tables_1, d.before a0 Z = true) (wz : List Jvm.Cond) (cs : Addr) (kc : ClassId) (u0 : UInt16) (u1 : UInt16) (u2 : UInt16) (h0 : Heap) (n0 : Nat) (O0 : Old Z n0 h0) (Vc : Arv Z h0 cs kc .char (3 : Int32) [(.int (own_ch u0)), (.int (own_ch u1)), (.int (own_ch u2))] (.int (0 : Int32))) (Sas : Sta Z Z.heap "java/lang/StringUTF16" "$assertionsDisabled" "Z" (.int (1 : Int32))) (Shi : Sta Z Z.heap "java/lang/StringUTF16" "HI_BYTE_SHIFT" "I" (.int (0 : Int32))) (Slo : Sta Z Z.heap "java/lang/StringUTF16" "LO_BYTE_SHIFT" "I" (.int (8 : Int32))) :
    MetFree l y_17 (head1 (Jvm.Cond.code y_17 jdk_52_method_16_code 6 (some (.array .byte)) :: wz) ({ frames := 3, cells := 2, slots := 9, locals := 40 } : Room)) (fun aZ UZ => aZ = #[(.ref cs), (.int (0 : Int32)), (.int (3 : Int32))] ∧ Z.Warmed39 UZ.vm ∧ UZ.heap = h0) (fun _ _ _ _ _ => True) (fun _ UZ oZ UY => ∃ vZ LZ, oZ = .returned vZ ∧ Q_rm_co_3 Z cs kc u0 u1 u2 h0 n0 vZ UY.heap LZ ∧ FrameEnd UZ oZ UY LZ ({ frames := 3, cells := 2, slots := 9, locals := 40 } : Room).cells ({ frames := 3, cells := 2, slots := 9, locals := 40 } : Room).slots) := by
  refine MetFree.of_bodySF (plainFor_of_name pn_7) hisR ?_
  intro p e s m args below meth c s₁ Bd hml0 hP hK
  obtain ⟨rfl, hZ, hh⟩ := hP
  have hx := Bd.exec
  have hby := Bd.bytes
  have hml : c.maxLocals = 6 := hml0
  have hown : s.vm.findClass "java/lang/StringUTF16" = some m.cls := findClass_of_methodNamed Bd.named
  have hnm := (name_of_methodNamed Bd.named Bd.method).1
  have X0 : Stand p l e ({ frames := 3, cells := 2, slots := 9, locals := 40 } : Room) s m #[(.ref cs), (.int (0 : Int32)), (.int (3 : Int32))] below meth c s₁ [] 0 0 := Stand.of_body Bd
  have e0 : s₁.heap = h0 := by rw [← hh, Bd.state]; rfl
  have N0 := Fr.nil n0
  have Z0 : n0 ≤ h0.size := O0.1 ▸ O0.2.1
  have K0 := Keep.refl h0 []
  show Go p e below (fun oW tW LW => FrameEnd s oW tW LW ({ frames := 3, cells := 2, slots := 9, locals := 40 } : Room).cells ({ frames := 3, cells := 2, slots := 9, locals := 40 } : Room).slots) (Q_rm_co_3 Z cs kc u0 u1 u2 h0 n0) s₁ (entryFrame m #[(.ref cs), (.int (0 : Int32)), (.int (3 : Int32))] 6)
  refine Go.of (fun t kz => castTop (ef_rm_co_3 m cs (0 : Int32) (3 : Int32)) kz) ?_
  show Go _ _ _ _ _ s₁ (mkF m 0 #[.val (.ref cs), .val (.int (0 : Int32)), .val (.int (3 : Int32)), .unset, .unset, .unset] [])
  refine Go.of (fun _ kz => XS.iloadN X0.here hx rfl (hb hby d7_0) rfl kz) ?_
  obtain ⟨T1, h1, k1, X1, e1, E1, A1, st1⟩ := newP (aty := .byte) X0 hx hZ (w21 hw) e0 (g := (mkF m 1 #[.val (.ref cs), .val (.int (0 : Int32)), .val (.int (3 : Int32)), .unset, .unset, .unset] [(.int (3 : Int32))])) rfl (hb hby d7_1) rfl (by decide) (cap := 3) (by decide) (by decide) (by decide) (by decide)
  obtain ⟨b1, g1⟩ : ∃ z, z = h0.size := ⟨_, rfl⟩
  rw [← g1] at A1 st1
  have ne_cs_b1 : cs ≠ b1 := Nat.ne_of_lt (Nat.lt_of_lt_of_le Vc.lt (Nat.le_of_eq g1.symm))
  have ge_b1 : n0 ≤ b1 := Nat.le_trans (O0.1 ▸ O0.2.1) (Nat.le_of_eq g1.symm)
  have hsz_b1 := Nat.le_of_eq g1.symm
  have sz_b1 : h0.size ≤ b1 := Nat.le_trans (Keep.refl h0 []).1 (Nat.le_of_eq g1.symm)
  have f1_Arv_cs := Vc.ext E1
  have O1 := O0.ext E1
  have Kk1 := (Keep.refl h0 []).ext E1
  have V_b1 : Arv Z h1 b1 k1 .byte (3 : Int32) [(.int (0 : Int32)), (.int (0 : Int32)), (.int (0 : Int32))] (.int (0 : Int32)) := (Arv.new A1 (by decide)).pad (pad_rep [] (.int (0 : Int32)) 3)
  refine Go.of (fun _ kz => st1 _ kz) ?_
  refine Go.of (fun _ kz => XS.astoreN X1.here hx rfl (hb hby d7_3) rfl rfl (l' := #[.val (.ref cs), .val (.int (0 : Int32)), .val (.int (3 : Int32)), .val (.ref b1), .unset, .unset]) rfl (XS.aloadN X1.here hx rfl (hb hby d7_4) rfl rfl (XS.iloadN X1.here hx rfl (hb hby d7_5) rfl (XS.aloadN X1.here hx rfl (hb hby d7_6) rfl rfl (XS.iconst X1.here hx rfl (hb hby d7_7) (XS.iloadN X1.here hx rfl (hb hby d7_8) rfl kz)))))) ?_
  show Go _ _ _ _ _ T1 (mkF m 9 #[.val (.ref cs), .val (.int (0 : Int32)), .val (.int (3 : Int32)), .val (.ref b1), .unset, .unset] [(.int (3 : Int32)), (.int (0 : Int32)), (.ref b1), (.int (0 : Int32)), (.ref cs)])
  refine Go.callS X1 hx hZ hown (y := y_13) (w42 hw) (w43 hw) (w40 hw) (w44 hw) (by decide) (rm_ci_3 l Z a0 hw [] cs b1 kc k1 u0 u1 u2 h1 n0 O1 f1_Arv_cs V_b1 ne_cs_b1 ge_b1) e1 0 (by decide) (by decide) (by rw [hml]; rfl) (argsL := [(.ref cs), (.int (0 : Int32)), (.ref b1), (.int (0 : Int32)), (.int (3 : Int32))]) (rest := []) (lenOf pd_10 rfl) rfl rfl (Nat.le_of_eq rfl) (hb hby d7_9) (c2 := 1) (s2 := 3) rfl rfl (by decide) (by decide) fun v2 T2 Lc2 L2 X2 l2 hQ2 => ?_
  obtain ⟨k2, rfl, N2q, K2, hD2⟩ := hQ2
  have N2 : Fr n0 L2 := by rw [l2]; exact Fr.app N0 N2q
  have f2_Arv_cs := f1_Arv_cs.keep K2 (ninS ne_cs_b1 nin0)
  have O2 := O1.keep K2 (allS ge_b1 all0)
  have Kk2 := Kk1.trans K2 (allS (Or.inr sz_b1) all0)
  show Go _ _ _ _ _ T2 (mkF m 12 #[.val (.ref cs), .val (.int (0 : Int32)), .val (.int (3 : Int32)), .val (.ref b1), .unset, .unset] [(.int k2)])
  rcases hD2 with ⟨rfl, hlat2, V2b⟩ | hf2
  · show Go _ _ _ _ _ T2 (mkF m 12 #[.val (.ref cs), .val (.int (0 : Int32)), .val (.int (3 : Int32)), .val (.ref b1), .unset, .unset] [(.int (3 : Int32))])
    refine Go.of (fun _ kz => XS.istore X2.here hx rfl (hb hby d7_12) rfl (l' := #[.val (.ref cs), .val (.int (0 : Int32)), .val (.int (3 : Int32)), .val (.ref b1), .val (.int (3 : Int32)), .unset]) rfl (XS.iload X2.here hx rfl (hb hby d7_14) rfl (XS.iloadN X2.here hx rfl (hb hby d7_16) rfl kz))) ?_
    refine Go.of (fun _ kz => XS.icmpYes X2.here hx rfl (pc0 := 17) (pc' := 57) rfl (hb hby d7_17) rfl (teq (by decide : (3 : Int32) = (3 : Int32))).1 (by decide) (by decide) kz) ?_
    refine Go.of (fun _ kz => XS.aloadN X2.here hx rfl (hb hby d7_57) rfl rfl kz) ?_
    refine Go.ret X2 (v := some (.ref b1)) (fun h => by rw [Bd.returns] at h; cases h) Bd.notSynchronized (fun fs hr => retOut X2 hx Bd.returns rfl (Or.inr (Or.inr (Or.inr (Or.inr ⟨rfl, rfl, rfl⟩)))) (hb hby d7_58) hr) (by decide) (by decide) ?_
    show Q_rm_co_3 Z _ _ _ _ _ h0 n0 _ T2.heap _
    exact ⟨_, _, _, _, rfl, N2, Kk2, sz_b1, V2b, Or.inl ⟨rfl, rfl, hlat2⟩⟩
  · show Go _ _ _ _ _ T2 (mkF m 12 #[.val (.ref cs), .val (.int (0 : Int32)), .val (.int (3 : Int32)), .val (.ref b1), .unset, .unset] [(.int k2)])
    refine Go.of (fun _ kz => XS.istore X2.here hx rfl (hb hby d7_12) rfl (l' := #[.val (.ref cs), .val (.int (0 : Int32)), .val (.int (3 : Int32)), .val (.ref b1), .val (.int k2), .unset]) rfl (XS.iload X2.here hx rfl (hb hby d7_14) rfl (XS.iloadN X2.here hx rfl (hb hby d7_16) rfl kz))) ?_
    refine Go.of (fun _ kz => XS.icmpNo X2.here hx rfl (hb hby d7_17) rfl (feq (by rcases hf2 with ⟨rfl, _⟩ | ⟨rfl, _⟩ | ⟨rfl, _⟩ <;> decide)).1 kz) ?_
    refine Go.of (fun _ kz => XS.aloadN X2.here hx rfl (hb hby d7_20) rfl rfl (XS.iloadN X2.here hx rfl (hb hby d7_21) rfl (XS.iloadN X2.here hx rfl (hb hby d7_22) rfl kz))) ?_
    show Go _ _ _ _ _ T2 (mkF m 23 #[.val (.ref cs), .val (.int (0 : Int32)), .val (.int (3 : Int32)), .val (.ref b1), .val (.int k2), .unset] [(.int (3 : Int32)), (.int (0 : Int32)), (.ref cs)])
    refine Go.callS X2 hx hZ hown (y := y_16) (w76 hw) (w77 hw) (w40 hw) (w78 hw) (by decide) (rm_tob_3 l Z a0 hw [] cs kc u0 u1 u2 T2.heap n0 O2 f2_Arv_cs Sas Shi Slo) rfl 0 (by decide) (by decide) (by rw [hml]; rfl) (argsL := [(.ref cs), (.int (0 : Int32)), (.int (3 : Int32))]) (rest := []) (lenOf pd_11 rfl) rfl rfl (Nat.le_of_eq rfl) (hb hby d7_23) (c2 := 2) (s2 := 9) rfl rfl (by decide) (by decide) fun v3 T3 Lc3 L3 X3 l3 hQ3 => ?_
    obtain ⟨b3, kb3, rfl, N3q, K3, hsz3, V3⟩ := hQ3
    have N3 : Fr n0 L3 := by rw [l3]; exact Fr.app N2 N3q
    have ge_b3 : n0 ≤ b3 := Nat.le_trans (O2.1 ▸ O2.2.1) hsz3
    have sz_b3 : h0.size ≤ b3 := Nat.le_trans Kk2.1 hsz3
    have f3_Arv_cs := f2_Arv_cs.keep K3 nin0
    have O3 := O2.keep K3 all0
    have Kk3 := Kk2.trans K3 all0
    refine Go.of (fun _ kz => XS.astore X3.here hx rfl (hb hby d7_26) rfl rfl (l' := #[.val (.ref cs), .val (.int (0 : Int32)), .val (.int (3 : Int32)), .val (.ref b1), .val (.int k2), .val (.ref b3)]) rfl (XS.aload X3.here hx rfl (hb hby d7_28) rfl rfl (XS.iload X3.here hx rfl (hb hby d7_30) rfl kz))) ?_
    show Go _ _ _ _ _ T3 (mkF m 32 #[.val (.ref cs), .val (.int (0 : Int32)), .val (.int (3 : Int32)), .val (.ref b1), .val (.int k2), .val (.ref b3)] [(.int k2), (.ref b3)])
    obtain ⟨x0, x1, r, hj, hj1, hv0, hv1, hr, hbg⟩ : ∃ x0 x1 r : Int32, (¬ (k2 <<< ((1 : Int32) &&& 31)) < (0 : Int32) ∧ (k2 <<< ((1 : Int32) &&& 31)) < (6 : Int32)) ∧ (¬ ((k2 <<< ((1 : Int32) &&& 31)) + (1 : Int32)) < (0 : Int32) ∧ ((k2 <<< ((1 : Int32) &&& 31)) + (1 : Int32)) < (6 : Int32)) ∧ ([(.int ((own_lo0 u0).toInt32)), (.int ((own_hi8 u0).toInt32)), (.int ((own_lo0 u1).toInt32)), (.int ((own_hi8 u1).toInt32)), (.int ((own_lo0 u2).toInt32)), (.int ((own_hi8 u2).toInt32))] : List Value).getD ((k2 <<< ((1 : Int32) &&& 31))).toNatClampNeg (.int (0 : Int32)) = .int x0 ∧ ([(.int ((own_lo0 u0).toInt32)), (.int ((own_hi8 u0).toInt32)), (.int ((own_lo0 u1).toInt32)), (.int ((own_hi8 u1).toInt32)), (.int ((own_lo0 u2).toInt32)), (.int ((own_hi8 u2).toInt32))] : List Value).getD (((k2 <<< ((1 : Int32) &&& 31)) + (1 : Int32))).toNatClampNeg (.int (0 : Int32)) = .int x1 ∧ nar .char ((((x0 &&& (255 : Int32)) <<< ((0 : Int32) &&& 31)) ||| ((x1 &&& (255 : Int32)) <<< ((8 : Int32) &&& 31))).toUInt32.toUInt16.toUInt32.toInt32) = r ∧ (255 : Int32) < r := by
      rcases hf2 with ⟨rfl, hg⟩ | ⟨rfl, -, hg⟩ | ⟨rfl, -, -, hg⟩
      · exact ⟨_, _, _, ⟨by decide, by decide⟩, ⟨by decide, by decide⟩, rfl, rfl, own_get u0, hg⟩
      · exact ⟨_, _, _, ⟨by decide, by decide⟩, ⟨by decide, by decide⟩, rfl, rfl, own_get u1, hg⟩
      · exact ⟨_, _, _, ⟨by decide, by decide⟩, ⟨by decide, by decide⟩, rfl, rfl, own_get u2, hg⟩
    refine Go.callS X3 hx hZ hown (y := y_7) (w92 hw) (w93 hw) (w40 hw) (w94 hw) (by decide) (rm_get l Z a0 hw [] b3 k2 kb3 (6 : Int32) [(.int ((own_lo0 u0).toInt32)), (.int ((own_hi8 u0).toInt32)), (.int ((own_lo0 u1).toInt32)), (.int ((own_hi8 u1).toInt32)), (.int ((own_lo0 u2).toInt32)), (.int ((own_hi8 u2).toInt32))] x0 x1 r T3.heap n0 O3 V3 Sas Shi Slo hj hj1 hv0 hv1 hr) rfl 0 (by decide) (by decide) (by rw [hml]; rfl) (argsL := [(.ref b3), (.int k2)]) (rest := []) (lenOf pd_5 rfl) rfl rfl (Nat.le_of_eq rfl) (hb hby d7_32) (c2 := 2) (s2 := 9) rfl rfl (by decide) (by decide) fun v4 T4 Lc4 L4 X4 l4 hQ4 => ?_
    obtain ⟨rfl, N4q, e4⟩ := hQ4
    have N4 : Fr n0 L4 := by rw [l4]; exact Fr.app N3 N4q
    refine Go.of (fun _ kz => XS.sipush X4.here hx rfl (hb hby d7_35) kz) ?_
    refine Go.of (fun _ kz => XS.icmpYes X4.here hx rfl (pc0 := 38) (pc' := 54) rfl (hb hby d7_38) rfl (tlt hbg).2.2.1 (by decide) (by decide) kz) ?_
    refine Go.of (fun _ kz => XS.aload X4.here hx rfl (hb hby d7_54) rfl rfl kz) ?_
    refine Go.ret X4 (v := some (.ref b3)) (fun h => by rw [Bd.returns] at h; cases h) Bd.notSynchronized (fun fs hr => retOut X4 hx Bd.returns rfl (Or.inr (Or.inr (Or.inr (Or.inr ⟨rfl, rfl, rfl⟩)))) (hb hby d7_56) hr) (by decide) (by decide) ?_
    show Q_rm_co_3 Z _ _ _ _ _ h0 n0 _ T4.heap _
    rw [e4]
    exact ⟨_, _, _, _, rfl, N4, Kk3, sz_b3, V3, Or.inr ⟨rfl, rfl⟩⟩

theorem ef_rm_cal_3_0 (m : MethodId) (x0 : Addr) (x1 : Int32) : entryFrame m #[(.ref x0), (.int x1)] 2 = mkF m 0 #[.val (.ref x0), .val (.int x1)] [] := by first | (simp [entryFrame, mkF, argsToLocals, Value.category]; done) | rfl
def Q_rm_cal_3_0 (Z : State) (b : Addr) (kb : ClassId) (vs : List Value) (h0 : Heap) (n0 : Nat) (v : Option Value) (h : Heap) (L : List Loc) : Prop := v = some (.int (0 : Int32)) ∧ Fr n0 L ∧ h = h0
set_option maxRecDepth 65536 in
set_option maxHeartbeats 40000000 in
theorem rm_cal_3_0 (l : Launch) (Z : State) (a0 : Array Value) (hw : ∀ d ∈ tables_1, d.before a0 Z = true) (wz : List Jvm.Cond) (b : Addr) (kb : ClassId) (vs : List Value) (h0 : Heap) (n0 : Nat) (O0 : Old Z n0 h0) (Vb : Arv Z h0 b kb .byte (3 : Int32) vs (.int (0 : Int32))) :
    MetFree l y_18 (head1 (Jvm.Cond.code y_18 jdk_52_method_15_code 2 (some .byte) :: wz) ({ frames := 0, cells := 0, slots := 0, locals := 0 } : Room)) (fun aZ UZ => aZ = #[(.ref b), (.int (3 : Int32))] ∧ Z.Warmed39 UZ.vm ∧ UZ.heap = h0) (fun _ _ _ _ _ => True) (fun _ UZ oZ UY => ∃ vZ LZ, oZ = .returned vZ ∧ Q_rm_cal_3_0 Z b kb vs h0 n0 vZ UY.heap LZ ∧ FrameEnd UZ oZ UY LZ ({ frames := 0, cells := 0, slots := 0, locals := 0 } : Room).cells ({ frames := 0, cells := 0, slots := 0, locals := 0 } : Room).slots) := by
  refine MetFree.of_bodySF (plainFor_of_name pn_9) hisR ?_
  intro p e s m args below meth c s₁ Bd hml0 hP hK
  obtain ⟨rfl, hZ, hh⟩ := hP
  have hx := Bd.exec
  have hby := Bd.bytes
  have hml : c.maxLocals = 2 := hml0
  have hown : s.vm.findClass "java/lang/StringUTF16" = some m.cls := findClass_of_methodNamed Bd.named
  have hnm := (name_of_methodNamed Bd.named Bd.method).1
  have X0 : Stand p l e ({ frames := 0, cells := 0, slots := 0, locals := 0 } : Room) s m #[(.ref b), (.int (3 : Int32))] below meth c s₁ [] 0 0 := Stand.of_body Bd
  have e0 : s₁.heap = h0 := by rw [← hh, Bd.state]; rfl
  have N0 := Fr.nil n0
  have Z0 : n0 ≤ h0.size := O0.1 ▸ O0.2.1
  have K0 := Keep.refl h0 []
  show Go p e below (fun oW tW LW => FrameEnd s oW tW LW ({ frames := 0, cells := 0, slots := 0, locals := 0 } : Room).cells ({ frames := 0, cells := 0, slots := 0, locals := 0 } : Room).slots) (Q_rm_cal_3_0 Z b kb vs h0 n0) s₁ (entryFrame m #[(.ref b), (.int (3 : Int32))] 2)
  refine Go.of (fun t kz => castTop (ef_rm_cal_3_0 m b (3 : Int32)) kz) ?_
  show Go _ _ _ _ _ s₁ (mkF m 0 #[.val (.ref b), .val (.int (3 : Int32))] [])
  refine Go.of (fun _ kz => XS.iloadN X0.here hx rfl (hb hby d9_0) rfl (XS.aloadN X0.here hx rfl (hb hby d9_1) rfl rfl kz)) ?_
  obtain ⟨cl1a, Ar1a, q1a, S1a, N1a, H1a, G1a⟩ := id Vb
  refine Go.of (fun _ kz => X0.arraylength hx (by rw [e0]; exact Ar1a.1) (State.isArrayOf_alike hZ.alike Ar1a.2.1) (g := (mkF m 2 #[.val (.ref b), .val (.int (3 : Int32))] [(.ref b), (.int (3 : Int32))])) rfl rfl (hb hby d9_2) _ kz) ?_
  rw [(len_of S1a N1a)]
  refine Go.of (fun _ kz => XS.isub X0.here hx rfl (hb hby d9_3) rfl kz) ?_
  show Go _ _ _ _ _ s₁ (mkF m 4 #[.val (.ref b), .val (.int (3 : Int32))] [(.int ((3 : Int32) - (3 : Int32)))])
  rw [(by decide : ((3 : Int32) - (3 : Int32)) = (0 : Int32))]
  refine Go.of (fun _ kz => XS.bipush X0.here hx rfl (hb hby d9_4) (XS.iushr X0.here hx rfl (hb hby d9_6) rfl kz)) ?_
  show Go _ _ _ _ _ s₁ (mkF m 7 #[.val (.ref b), .val (.int (3 : Int32))] [(.int (((0 : Int32).toUInt32 >>> ((31 : Int32) &&& 31).toUInt32).toInt32))])
  rw [(by decide : (((0 : Int32).toUInt32 >>> ((31 : Int32) &&& 31).toUInt32).toInt32) = (0 : Int32))]
  refine Go.of (fun _ kz => XS.i2b X0.here hx rfl (hb hby d9_7) rfl kz) ?_
  show Go _ _ _ _ _ s₁ (mkF m 8 #[.val (.ref b), .val (.int (3 : Int32))] [(.int ((0 : Int32).toInt8.toInt32))])
  rw [(by decide : ((0 : Int32).toInt8.toInt32) = (0 : Int32))]
  show Go _ _ _ _ _ s₁ (mkF m 8 #[.val (.ref b), .val (.int (3 : Int32))] [(.int (0 : Int32))])
  refine Go.ret X0 (v := some (.int (0 : Int32))) (fun h => by rw [Bd.returns] at h; cases h) Bd.notSynchronized (fun fs hr => retN X0 hx (t := .byte) Bd.returns (by simp) (hb hby d9_8) hr) (by decide) (by decide) ?_
  show Q_rm_cal_3_0 Z _ _ _ h0 n0 _ s₁.heap _
  rw [e0]
  exact ⟨rfl, N0, rfl⟩

theorem ef_rm_cal_3_1 (m : MethodId) (x0 : Addr) (x1 : Int32) : entryFrame m #[(.ref x0), (.int x1)] 2 = mkF m 0 #[.val (.ref x0), .val (.int x1)] [] := by first | (simp [entryFrame, mkF, argsToLocals, Value.category]; done) | rfl
def Q_rm_cal_3_1 (Z : State) (b : Addr) (kb : ClassId) (vs : List Value) (h0 : Heap) (n0 : Nat) (v : Option Value) (h : Heap) (L : List Loc) : Prop := v = some (.int (1 : Int32)) ∧ Fr n0 L ∧ h = h0
set_option maxRecDepth 65536 in
set_option maxHeartbeats 40000000 in
theorem rm_cal_3_1 (l : Launch) (Z : State) (a0 : Array Value) (hw : ∀ d ∈ tables_1, d.before a0 Z = true) (wz : List Jvm.Cond) (b : Addr) (kb : ClassId) (vs : List Value) (h0 : Heap) (n0 : Nat) (O0 : Old Z n0 h0) (Vb : Arv Z h0 b kb .byte (6 : Int32) vs (.int (0 : Int32))) :
    MetFree l y_18 (head1 (Jvm.Cond.code y_18 jdk_52_method_15_code 2 (some .byte) :: wz) ({ frames := 0, cells := 0, slots := 0, locals := 0 } : Room)) (fun aZ UZ => aZ = #[(.ref b), (.int (3 : Int32))] ∧ Z.Warmed39 UZ.vm ∧ UZ.heap = h0) (fun _ _ _ _ _ => True) (fun _ UZ oZ UY => ∃ vZ LZ, oZ = .returned vZ ∧ Q_rm_cal_3_1 Z b kb vs h0 n0 vZ UY.heap LZ ∧ FrameEnd UZ oZ UY LZ ({ frames := 0, cells := 0, slots := 0, locals := 0 } : Room).cells ({ frames := 0, cells := 0, slots := 0, locals := 0 } : Room).slots) := by
  refine MetFree.of_bodySF (plainFor_of_name pn_9) hisR ?_
  intro p e s m args below meth c s₁ Bd hml0 hP hK
  obtain ⟨rfl, hZ, hh⟩ := hP
  have hx := Bd.exec
  have hby := Bd.bytes
  have hml : c.maxLocals = 2 := hml0
  have hown : s.vm.findClass "java/lang/StringUTF16" = some m.cls := findClass_of_methodNamed Bd.named
  have hnm := (name_of_methodNamed Bd.named Bd.method).1
  have X0 : Stand p l e ({ frames := 0, cells := 0, slots := 0, locals := 0 } : Room) s m #[(.ref b), (.int (3 : Int32))] below meth c s₁ [] 0 0 := Stand.of_body Bd
  have e0 : s₁.heap = h0 := by rw [← hh, Bd.state]; rfl
  have N0 := Fr.nil n0
  have Z0 : n0 ≤ h0.size := O0.1 ▸ O0.2.1
  have K0 := Keep.refl h0 []
  show Go p e below (fun oW tW LW => FrameEnd s oW tW LW ({ frames := 0, cells := 0, slots := 0, locals := 0 } : Room).cells ({ frames := 0, cells := 0, slots := 0, locals := 0 } : Room).slots) (Q_rm_cal_3_1 Z b kb vs h0 n0) s₁ (entryFrame m #[(.ref b), (.int (3 : Int32))] 2)
  refine Go.of (fun t kz => castTop (ef_rm_cal_3_1 m b (3 : Int32)) kz) ?_
  show Go _ _ _ _ _ s₁ (mkF m 0 #[.val (.ref b), .val (.int (3 : Int32))] [])
  refine Go.of (fun _ kz => XS.iloadN X0.here hx rfl (hb hby d9_0) rfl (XS.aloadN X0.here hx rfl (hb hby d9_1) rfl rfl kz)) ?_
  obtain ⟨cl1a, Ar1a, q1a, S1a, N1a, H1a, G1a⟩ := id Vb
  refine Go.of (fun _ kz => X0.arraylength hx (by rw [e0]; exact Ar1a.1) (State.isArrayOf_alike hZ.alike Ar1a.2.1) (g := (mkF m 2 #[.val (.ref b), .val (.int (3 : Int32))] [(.ref b), (.int (3 : Int32))])) rfl rfl (hb hby d9_2) _ kz) ?_
  rw [(len_of S1a N1a)]
  refine Go.of (fun _ kz => XS.isub X0.here hx rfl (hb hby d9_3) rfl kz) ?_
  show Go _ _ _ _ _ s₁ (mkF m 4 #[.val (.ref b), .val (.int (3 : Int32))] [(.int ((3 : Int32) - (6 : Int32)))])
  rw [(by decide : ((3 : Int32) - (6 : Int32)) = (-3 : Int32))]
  refine Go.of (fun _ kz => XS.bipush X0.here hx rfl (hb hby d9_4) (XS.iushr X0.here hx rfl (hb hby d9_6) rfl kz)) ?_
  show Go _ _ _ _ _ s₁ (mkF m 7 #[.val (.ref b), .val (.int (3 : Int32))] [(.int (((-3 : Int32).toUInt32 >>> ((31 : Int32) &&& 31).toUInt32).toInt32))])
  rw [(by decide : (((-3 : Int32).toUInt32 >>> ((31 : Int32) &&& 31).toUInt32).toInt32) = (1 : Int32))]
  refine Go.of (fun _ kz => XS.i2b X0.here hx rfl (hb hby d9_7) rfl kz) ?_
  show Go _ _ _ _ _ s₁ (mkF m 8 #[.val (.ref b), .val (.int (3 : Int32))] [(.int ((1 : Int32).toInt8.toInt32))])
  rw [(by decide : ((1 : Int32).toInt8.toInt32) = (1 : Int32))]
  show Go _ _ _ _ _ s₁ (mkF m 8 #[.val (.ref b), .val (.int (3 : Int32))] [(.int (1 : Int32))])
  refine Go.ret X0 (v := some (.int (1 : Int32))) (fun h => by rw [Bd.returns] at h; cases h) Bd.notSynchronized (fun fs hr => retN X0 hx (t := .byte) Bd.returns (by simp) (hb hby d9_8) hr) (by decide) (by decide) ?_
  show Q_rm_cal_3_1 Z _ _ _ h0 n0 _ s₁.heap _
  rw [e0]
  exact ⟨rfl, N0, rfl⟩

theorem ef_rm_in2_3 (m : MethodId) (x0 : Addr) (x1 : Addr) (x2 : Int32) (x3 : Int32) : entryFrame m #[(.ref x0), (.ref x1), (.int x2), (.int x3), .null] 6 = mkF m 0 #[.val (.ref x0), .val (.ref x1), .val (.int x2), .val (.int x3), .val .null, .unset] [] := by first | (simp [entryFrame, mkF, argsToLocals, Value.category]; done) | rfl
def Q_rm_in2_3 (Z : State) (a : Addr) (cs : Addr) (kc : ClassId) (u0 : UInt16) (u1 : UInt16) (u2 : UInt16) (csz : Int32) (h0 : Heap) (n0 : Nat) (v : Option Value) (h : Heap) (L : List Loc) : Prop := v = none ∧ Fr n0 L ∧ Keep h0 h [a] ∧ Exa Z h a "java/lang/String" ∧ ∃ (b : Addr) (kb : ClassId) (cd z : Int32) (vs : List Value), Fld Z h a "java/lang/String" "value" "[B" (.ref b) ∧ Fld Z h a "java/lang/String" "coder" "B" (.int cd) ∧ Arv Z h b kb .byte z vs (.int (0 : Int32)) ∧ nar .byte cd = cd ∧ ((cd = (0 : Int32) ∧ z = (3 : Int32) ∧ vs = [(.int ((own_lo u0).toInt32)), (.int ((own_lo u1).toInt32)), (.int ((own_lo u2).toInt32))] ∧ (¬ (255 : Int32) < (own_ch u0) ∧ ¬ (255 : Int32) < (own_ch u1) ∧ ¬ (255 : Int32) < (own_ch u2))) ∨ (cd = (1 : Int32) ∧ z = (6 : Int32) ∧ vs = [(.int ((own_lo0 u0).toInt32)), (.int ((own_hi8 u0).toInt32)), (.int ((own_lo0 u1).toInt32)), (.int ((own_hi8 u1).toInt32)), (.int ((own_lo0 u2).toInt32)), (.int ((own_hi8 u2).toInt32))]))
set_option maxRecDepth 65536 in
set_option maxHeartbeats 40000000 in
theorem rm_in2_3 (l : Launch) (Z : State) (a0 : Array Value) (hw : ∀ d ∈ tables_1, d.before a0 Z = true) (wz : List Jvm.Cond) (a : Addr) (cs : Addr) (kc : ClassId) (u0 : UInt16) (u1 : UInt16) (u2 : UInt16) (csz : Int32) (h0 : Heap) (n0 : Nat) (O0 : Old Z n0 h0) (E : Exa Z h0 a "java/lang/String") (Fv : Fld Z h0 a "java/lang/String" "value" "[B" .null) (Fc : Fld Z h0 a "java/lang/String" "coder" "B" (.int (0 : Int32))) (ge_a : n0 ≤ a) (hac : cs ≠ a) (Vc : Arv Z h0 cs kc .char (3 : Int32) [(.int (own_ch u0)), (.int (own_ch u1)), (.int (own_ch u2))] (.int (0 : Int32))) (Sas : Sta Z Z.heap "java/lang/StringUTF16" "$assertionsDisabled" "Z" (.int (1 : Int32))) (Shi : Sta Z Z.heap "java/lang/StringUTF16" "HI_BYTE_SHIFT" "I" (.int (0 : Int32))) (Slo : Sta Z Z.heap "java/lang/StringUTF16" "LO_BYTE_SHIFT" "I" (.int (8 : Int32))) (Scs : Sta Z Z.heap "java/lang/String" "COMPACT_STRINGS" "Z" (.int csz)) (hcs : ¬ csz = (0 : Int32)) :
    MetFree l y_19 (head1 (Jvm.Cond.code y_19 jdk_42_method_149_code 6 none :: wz) ({ frames := 4, cells := 2, slots := 9, locals := 57 } : Room)) (fun aZ UZ => aZ = #[(.ref a), (.ref cs), (.int (0 : Int32)), (.int (3 : Int32)), .null] ∧ Z.Warmed39 UZ.vm ∧ UZ.heap = h0) (fun _ _ _ _ _ => True) (fun _ UZ oZ UY => ∃ vZ LZ, oZ = .returned vZ ∧ Q_rm_in2_3 Z a cs kc u0 u1 u2 csz h0 n0 vZ UY.heap LZ ∧ FrameEnd UZ oZ UY LZ ({ frames := 4, cells := 2, slots := 9, locals := 57 } : Room).cells ({ frames := 4, cells := 2, slots := 9, locals := 57 } : Room).slots) := by
  refine MetFree.of_bodySF (plainFor_of_name pn_3) hisR ?_
  intro p e s m args below meth c s₁ Bd hml0 hP hK
  obtain ⟨rfl, hZ, hh⟩ := hP
  have hx := Bd.exec
  have hby := Bd.bytes
  have hml : c.maxLocals = 6 := hml0
  have hown : s.vm.findClass "java/lang/String" = some m.cls := findClass_of_methodNamed Bd.named
  have hnm := (name_of_methodNamed Bd.named Bd.method).1
  have X0 : Stand p l e ({ frames := 4, cells := 2, slots := 9, locals := 57 } : Room) s m #[(.ref a), (.ref cs), (.int (0 : Int32)), (.int (3 : Int32)), .null] below meth c s₁ [] 0 0 := Stand.of_body Bd
  have e0 : s₁.heap = h0 := by rw [← hh, Bd.state]; rfl
  have N0 := Fr.nil n0
  have Z0 : n0 ≤ h0.size := O0.1 ▸ O0.2.1
  have K0 := Keep.refl h0 []
  show Go p e below (fun oW tW LW => FrameEnd s oW tW LW ({ frames := 4, cells := 2, slots := 9, locals := 57 } : Room).cells ({ frames := 4, cells := 2, slots := 9, locals := 57 } : Room).slots) (Q_rm_in2_3 Z a cs kc u0 u1 u2 csz h0 n0) s₁ (entryFrame m #[(.ref a), (.ref cs), (.int (0 : Int32)), (.int (3 : Int32)), .null] 6)
  refine Go.of (fun t kz => castTop (ef_rm_in2_3 m a cs (0 : Int32) (3 : Int32)) kz) ?_
  show Go _ _ _ _ _ s₁ (mkF m 0 #[.val (.ref a), .val (.ref cs), .val (.int (0 : Int32)), .val (.int (3 : Int32)), .val .null, .unset] [])
  refine Go.of (fun _ kz => XS.aloadN X0.here hx rfl (hb hby d3_0) rfl rfl kz) ?_
  show Go _ _ _ _ _ s₁ (mkF m 1 #[.val (.ref a), .val (.ref cs), .val (.int (0 : Int32)), .val (.int (3 : Int32)), .val .null, .unset] [(.ref a)])
  obtain ⟨T1, X1, e1, st1⟩ := initO X0 hx hZ hown (w17 hw) (w18 hw) (w19 hw) e0 (g := (mkF m 1 #[.val (.ref a), .val (.ref cs), .val (.int (0 : Int32)), .val (.int (3 : Int32)), .val .null, .unset] [(.ref a)])) rfl (by rw [hml]; rfl) rfl (hb hby d3_1) (by decide) (W := 0) (by show 2 * 0 + _ ≤ _; exact Nat.le_of_eq rfl) (by decide)
  refine Go.of (fun _ kz => st1 _ kz) ?_
  refine Go.of (fun _ kz => XS.iloadN X1.here hx rfl (hb hby d3_4) rfl kz) ?_
  refine Go.of (fun _ kz => XS.ifYes X1.here hx rfl (pc0 := 5) (pc' := 27) rfl (hb hby d3_5) rfl ((if0 _ _).trans (feq (by decide : ¬ (3 : Int32) = (0 : Int32))).2) (by decide) (by decide) kz) ?_
  show Go _ _ _ _ _ T1 (mkF m 27 #[.val (.ref a), .val (.ref cs), .val (.int (0 : Int32)), .val (.int (3 : Int32)), .val .null, .unset] [])
  refine Go.getS X1 hx hZ hown (host := "") (Or.inl (w37 hw)) Via.refl e1 ((Scs).ext O0.2) (hb hby d3_27) fun T2 X2 e2 => ?_
  refine Go.of (fun _ kz => XS.ifNo X2.here hx rfl (hb hby d3_30) rfl ((if0 _ _).trans (feq hcs).1) kz) ?_
  refine Go.of (fun _ kz => XS.aloadN X2.here hx rfl (hb hby d3_33) rfl rfl (XS.iloadN X2.here hx rfl (hb hby d3_34) rfl (XS.iloadN X2.here hx rfl (hb hby d3_35) rfl kz))) ?_
  show Go _ _ _ _ _ T2 (mkF m 36 #[.val (.ref a), .val (.ref cs), .val (.int (0 : Int32)), .val (.int (3 : Int32)), .val .null, .unset] [(.int (3 : Int32)), (.int (0 : Int32)), (.ref cs)])
  refine Go.callS X2 hx hZ hown (y := y_17) (w38 hw) (w39 hw) (w40 hw) (w41 hw) (by decide) (rm_co_3 l Z a0 hw [] cs kc u0 u1 u2 h0 n0 O0 Vc Sas Shi Slo) e2 0 (by decide) (by decide) (by rw [hml]; rfl) (argsL := [(.ref cs), (.int (0 : Int32)), (.int (3 : Int32))]) (rest := []) (lenOf pd_11 rfl) rfl rfl (Nat.le_of_eq rfl) (hb hby d3_36) (c2 := 2) (s2 := 9) rfl rfl (by decide) (by decide) fun v3 T3 Lc3 L3 X3 l3 hQ3 => ?_
  obtain ⟨b3, kb3, zz3, vs3, rfl, N3q, K3, hsz3, V3, hD3⟩ := hQ3
  have N3 : Fr n0 L3 := by rw [l3]; exact Fr.app N0 N3q
  have ne_a_b3 : a ≠ b3 := Nat.ne_of_lt (Nat.lt_of_lt_of_le E.lt hsz3)
  have f3_Exa_a := E.keep K3
  have f3_Fld_a_value := Fv.keep K3 nin0
  have f3_Fld_a_coder := Fc.keep K3 nin0
  have f3_Arv_cs := Vc.keep K3 nin0
  have O3 := O0.keep K3 all0
  have Kk3 := (Keep.refl h0 [a]).trans K3 all0
  show Go _ _ _ _ _ T3 (mkF m 39 #[.val (.ref a), .val (.ref cs), .val (.int (0 : Int32)), .val (.int (3 : Int32)), .val .null, .unset] [(.ref b3)])
  rcases hD3 with ⟨rfl, rfl, hlat⟩ | ⟨rfl, rfl⟩
  · show Go _ _ _ _ _ T3 (mkF m 39 #[.val (.ref a), .val (.ref cs), .val (.int (0 : Int32)), .val (.int (3 : Int32)), .val .null, .unset] [(.ref b3)])
    refine Go.of (fun _ kz => XS.astore X3.here hx rfl (hb hby d3_39) rfl rfl (l' := #[.val (.ref a), .val (.ref cs), .val (.int (0 : Int32)), .val (.int (3 : Int32)), .val .null, .val (.ref b3)]) rfl (XS.aloadN X3.here hx rfl (hb hby d3_41) rfl rfl (XS.aload X3.here hx rfl (hb hby d3_42) rfl rfl (XS.iloadN X3.here hx rfl (hb hby d3_44) rfl kz)))) ?_
    show Go _ _ _ _ _ T3 (mkF m 45 #[.val (.ref a), .val (.ref cs), .val (.int (0 : Int32)), .val (.int (3 : Int32)), .val .null, .val (.ref b3)] [(.int (3 : Int32)), (.ref b3), (.ref a)])
    refine Go.callS X3 hx hZ hown (y := y_18) (w45 hw) (w46 hw) (w40 hw) (w47 hw) (by decide) (rm_cal_3_0 l Z a0 hw [] b3 kb3 [(.int ((own_lo u0).toInt32)), (.int ((own_lo u1).toInt32)), (.int ((own_lo u2).toInt32))] T3.heap n0 O3 V3) rfl 1 (by decide) (by decide) (by rw [hml]; rfl) (argsL := [(.ref b3), (.int (3 : Int32))]) (rest := [(.ref a)]) (lenOf pd_12 rfl) rfl rfl (Nat.le_of_eq rfl) (hb hby d3_45) (c2 := 2) (s2 := 9) rfl rfl (by decide) (by decide) fun v4 T4 Lc4 L4 X4 l4 hQ4 => ?_
    obtain ⟨rfl, N4q, e4⟩ := hQ4
    have N4 : Fr n0 L4 := by rw [l4]; exact Fr.app N3 N4q
    obtain ⟨T5, h5, X5, e5, W5, st5⟩ := putFN X4 hx hZ hown (w27 hw) Via.refl e4 f3_Fld_a_coder f3_Exa_a (Or.inr ⟨(w23 hw), rfl, hnm⟩) (w3 hw) (ty := .byte) (v' := (.int (0 : Int32))) (by decide) rfl (by decide) (g := (mkF m 48 #[.val (.ref a), .val (.ref cs), .val (.int (0 : Int32)), .val (.int (3 : Int32)), .val .null, .val (.ref b3)] [(.int (0 : Int32)), (.ref a)])) rfl rfl (hb hby d3_48)
    have Fw5 := f3_Fld_a_coder.same W5
    have f5_Exa_a := f3_Exa_a.wr W5
    have f5_Fld_a_value := f3_Fld_a_value.other W5 (Or.inr (slot_ne (Or.inr (w22 hw)) (Or.inr (w23 hw)) (by decide) (t := (.array .byte)) (t' := .byte) (by decide) (by decide)))
    have f5_Arv_cs := f3_Arv_cs.other W5 hac
    have f5_Arv_b3 := V3.other W5 (Ne.symm ne_a_b3)
    have O5 := O3.wr W5 ge_a
    have N5 := Fr.snoc X5 N4 ge_a
    have Kk5 := Kk3.wr W5 (Or.inl (List.mem_singleton.mpr rfl))
    refine Go.of (fun _ kz => st5 _ kz) ?_
    refine Go.of (fun _ kz => XS.aloadN X5.here hx rfl (hb hby d3_51) rfl rfl (XS.aload X5.here hx rfl (hb hby d3_52) rfl rfl kz)) ?_
    obtain ⟨T6, h6, X6, e6, W6, st6⟩ := putF X5 hx hZ hown (host := "") (Or.inl (w26 hw)) Via.refl e5 f5_Fld_a_value f5_Exa_a (Or.inr ⟨(w22 hw), rfl, hnm⟩) (w3 hw) (ty := (.array .byte)) (by decide) rfl rfl (g := (mkF m 54 #[.val (.ref a), .val (.ref cs), .val (.int (0 : Int32)), .val (.int (3 : Int32)), .val .null, .val (.ref b3)] [(.ref b3), (.ref a)])) rfl rfl (hb hby d3_54)
    have Fw6 := f5_Fld_a_value.same W6
    have f6_Exa_a := f5_Exa_a.wr W6
    have f6_Fld_a_coder := Fw5.other W6 (Or.inr (slot_ne (Or.inr (w23 hw)) (Or.inr (w22 hw)) (by decide) (t := .byte) (t' := (.array .byte)) (by decide) (by decide)))
    have f6_Arv_cs := f5_Arv_cs.other W6 hac
    have f6_Arv_b3 := f5_Arv_b3.other W6 (Ne.symm ne_a_b3)
    have O6 := O5.wr W6 ge_a
    have N6 := Fr.snoc X6 N5 ge_a
    have Kk6 := Kk5.wr W6 (Or.inl (List.mem_singleton.mpr rfl))
    refine Go.of (fun _ kz => st6 _ kz) ?_
    refine Go.ret X6 (v := none) (fun _ => rfl) Bd.notSynchronized (fun fs hr => X6.returnOut hx Bd.returns (hb hby d3_57) hr) (by decide) (by decide) ?_
    show Q_rm_in2_3 Z _ _ _ _ _ _ _ h0 n0 _ T6.heap _
    rw [e6]
    exact ⟨rfl, N6, Kk6, f6_Exa_a, _, _, _, _, _, Fw6, f6_Fld_a_coder, f6_Arv_b3, by decide, Or.inl ⟨rfl, rfl, rfl, hlat⟩⟩
  · show Go _ _ _ _ _ T3 (mkF m 39 #[.val (.ref a), .val (.ref cs), .val (.int (0 : Int32)), .val (.int (3 : Int32)), .val .null, .unset] [(.ref b3)])
    refine Go.of (fun _ kz => XS.astore X3.here hx rfl (hb hby d3_39) rfl rfl (l' := #[.val (.ref a), .val (.ref cs), .val (.int (0 : Int32)), .val (.int (3 : Int32)), .val .null, .val (.ref b3)]) rfl (XS.aloadN X3.here hx rfl (hb hby d3_41) rfl rfl (XS.aload X3.here hx rfl (hb hby d3_42) rfl rfl (XS.iloadN X3.here hx rfl (hb hby d3_44) rfl kz)))) ?_
    show Go _ _ _ _ _ T3 (mkF m 45 #[.val (.ref a), .val (.ref cs), .val (.int (0 : Int32)), .val (.int (3 : Int32)), .val .null, .val (.ref b3)] [(.int (3 : Int32)), (.ref b3), (.ref a)])
    refine Go.callS X3 hx hZ hown (y := y_18) (w45 hw) (w46 hw) (w40 hw) (w47 hw) (by decide) (rm_cal_3_1 l Z a0 hw [] b3 kb3 [(.int ((own_lo0 u0).toInt32)), (.int ((own_hi8 u0).toInt32)), (.int ((own_lo0 u1).toInt32)), (.int ((own_hi8 u1).toInt32)), (.int ((own_lo0 u2).toInt32)), (.int ((own_hi8 u2).toInt32))] T3.heap n0 O3 V3) rfl 1 (by decide) (by decide) (by rw [hml]; rfl) (argsL := [(.ref b3), (.int (3 : Int32))]) (rest := [(.ref a)]) (lenOf pd_12 rfl) rfl rfl (Nat.le_of_eq rfl) (hb hby d3_45) (c2 := 2) (s2 := 9) rfl rfl (by decide) (by decide) fun v7 T7 Lc7 L7 X7 l7 hQ7 => ?_
    obtain ⟨rfl, N7q, e7⟩ := hQ7
    have N7 : Fr n0 L7 := by rw [l7]; exact Fr.app N3 N7q
    obtain ⟨T8, h8, X8, e8, W8, st8⟩ := putFN X7 hx hZ hown (w27 hw) Via.refl e7 f3_Fld_a_coder f3_Exa_a (Or.inr ⟨(w23 hw), rfl, hnm⟩) (w3 hw) (ty := .byte) (v' := (.int (1 : Int32))) (by decide) rfl (by decide) (g := (mkF m 48 #[.val (.ref a), .val (.ref cs), .val (.int (0 : Int32)), .val (.int (3 : Int32)), .val .null, .val (.ref b3)] [(.int (1 : Int32)), (.ref a)])) rfl rfl (hb hby d3_48)
    have Fw8 := f3_Fld_a_coder.same W8
    have f8_Exa_a := f3_Exa_a.wr W8
    have f8_Fld_a_value := f3_Fld_a_value.other W8 (Or.inr (slot_ne (Or.inr (w22 hw)) (Or.inr (w23 hw)) (by decide) (t := (.array .byte)) (t' := .byte) (by decide) (by decide)))
    have f8_Arv_cs := f3_Arv_cs.other W8 hac
    have f8_Arv_b3 := V3.other W8 (Ne.symm ne_a_b3)
    have O8 := O3.wr W8 ge_a
    have N8 := Fr.snoc X8 N7 ge_a
    have Kk8 := Kk3.wr W8 (Or.inl (List.mem_singleton.mpr rfl))
    refine Go.of (fun _ kz => st8 _ kz) ?_
    refine Go.of (fun _ kz => XS.aloadN X8.here hx rfl (hb hby d3_51) rfl rfl (XS.aload X8.here hx rfl (hb hby d3_52) rfl rfl kz)) ?_
    obtain ⟨T9, h9, X9, e9, W9, st9⟩ := putF X8 hx hZ hown (host := "") (Or.inl (w26 hw)) Via.refl e8 f8_Fld_a_value f8_Exa_a (Or.inr ⟨(w22 hw), rfl, hnm⟩) (w3 hw) (ty := (.array .byte)) (by decide) rfl rfl (g := (mkF m 54 #[.val (.ref a), .val (.ref cs), .val (.int (0 : Int32)), .val (.int (3 : Int32)), .val .null, .val (.ref b3)] [(.ref b3), (.ref a)])) rfl rfl (hb hby d3_54)
    have Fw9 := f8_Fld_a_value.same W9
    have f9_Exa_a := f8_Exa_a.wr W9
    have f9_Fld_a_coder := Fw8.other W9 (Or.inr (slot_ne (Or.inr (w23 hw)) (Or.inr (w22 hw)) (by decide) (t := .byte) (t' := (.array .byte)) (by decide) (by decide)))
    have f9_Arv_cs := f8_Arv_cs.other W9 hac
    have f9_Arv_b3 := f8_Arv_b3.other W9 (Ne.symm ne_a_b3)
    have O9 := O8.wr W9 ge_a
    have N9 := Fr.snoc X9 N8 ge_a
    have Kk9 := Kk8.wr W9 (Or.inl (List.mem_singleton.mpr rfl))
    refine Go.of (fun _ kz => st9 _ kz) ?_
    refine Go.ret X9 (v := none) (fun _ => rfl) Bd.notSynchronized (fun fs hr => X9.returnOut hx Bd.returns (hb hby d3_57) hr) (by decide) (by decide) ?_
    show Q_rm_in2_3 Z _ _ _ _ _ _ _ h0 n0 _ T9.heap _
    rw [e9]
    exact ⟨rfl, N9, Kk9, f9_Exa_a, _, _, _, _, _, Fw9, f9_Fld_a_coder, f9_Arv_b3, by decide, Or.inr ⟨rfl, rfl, rfl⟩⟩

theorem ef_rm_in1_3 (m : MethodId) (x0 : Addr) (x1 : Addr) : entryFrame m #[(.ref x0), (.ref x1)] 2 = mkF m 0 #[.val (.ref x0), .val (.ref x1)] [] := by first | (simp [entryFrame, mkF, argsToLocals, Value.category]; done) | rfl
def Q_rm_in1_3 (Z : State) (a : Addr) (cs : Addr) (kc : ClassId) (u0 : UInt16) (u1 : UInt16) (u2 : UInt16) (csz : Int32) (h0 : Heap) (n0 : Nat) (v : Option Value) (h : Heap) (L : List Loc) : Prop := v = none ∧ Fr n0 L ∧ Keep h0 h [a] ∧ Exa Z h a "java/lang/String" ∧ ∃ (b : Addr) (kb : ClassId) (cd z : Int32) (vs : List Value), Fld Z h a "java/lang/String" "value" "[B" (.ref b) ∧ Fld Z h a "java/lang/String" "coder" "B" (.int cd) ∧ Arv Z h b kb .byte z vs (.int (0 : Int32)) ∧ nar .byte cd = cd ∧ ((cd = (0 : Int32) ∧ z = (3 : Int32) ∧ vs = [(.int ((own_lo u0).toInt32)), (.int ((own_lo u1).toInt32)), (.int ((own_lo u2).toInt32))] ∧ (¬ (255 : Int32) < (own_ch u0) ∧ ¬ (255 : Int32) < (own_ch u1) ∧ ¬ (255 : Int32) < (own_ch u2))) ∨ (cd = (1 : Int32) ∧ z = (6 : Int32) ∧ vs = [(.int ((own_lo0 u0).toInt32)), (.int ((own_hi8 u0).toInt32)), (.int ((own_lo0 u1).toInt32)), (.int ((own_hi8 u1).toInt32)), (.int ((own_lo0 u2).toInt32)), (.int ((own_hi8 u2).toInt32))]))
set_option maxRecDepth 65536 in
set_option maxHeartbeats 40000000 in
theorem rm_in1_3 (l : Launch) (Z : State) (a0 : Array Value) (hw : ∀ d ∈ tables_1, d.before a0 Z = true) (wz : List Jvm.Cond) (a : Addr) (cs : Addr) (kc : ClassId) (u0 : UInt16) (u1 : UInt16) (u2 : UInt16) (csz : Int32) (h0 : Heap) (n0 : Nat) (O0 : Old Z n0 h0) (E : Exa Z h0 a "java/lang/String") (Fv : Fld Z h0 a "java/lang/String" "value" "[B" .null) (Fc : Fld Z h0 a "java/lang/String" "coder" "B" (.int (0 : Int32))) (ge_a : n0 ≤ a) (hac : cs ≠ a) (Vc : Arv Z h0 cs kc .char (3 : Int32) [(.int (own_ch u0)), (.int (own_ch u1)), (.int (own_ch u2))] (.int (0 : Int32))) (Sas : Sta Z Z.heap "java/lang/StringUTF16" "$assertionsDisabled" "Z" (.int (1 : Int32))) (Shi : Sta Z Z.heap "java/lang/StringUTF16" "HI_BYTE_SHIFT" "I" (.int (0 : Int32))) (Slo : Sta Z Z.heap "java/lang/StringUTF16" "LO_BYTE_SHIFT" "I" (.int (8 : Int32))) (Scs : Sta Z Z.heap "java/lang/String" "COMPACT_STRINGS" "Z" (.int csz)) (hcs : ¬ csz = (0 : Int32)) :
    MetFree l y_20 (head1 (Jvm.Cond.code y_20 jdk_42_method_3_code 2 none :: wz) ({ frames := 5, cells := 2, slots := 9, locals := 74 } : Room)) (fun aZ UZ => aZ = #[(.ref a), (.ref cs)] ∧ Z.Warmed39 UZ.vm ∧ UZ.heap = h0) (fun _ _ _ _ _ => True) (fun _ UZ oZ UY => ∃ vZ LZ, oZ = .returned vZ ∧ Q_rm_in1_3 Z a cs kc u0 u1 u2 csz h0 n0 vZ UY.heap LZ ∧ FrameEnd UZ oZ UY LZ ({ frames := 5, cells := 2, slots := 9, locals := 74 } : Room).cells ({ frames := 5, cells := 2, slots := 9, locals := 74 } : Room).slots) := by
  refine MetFree.of_bodySF (plainFor_of_name pn_2) hisR ?_
  intro p e s m args below meth c s₁ Bd hml0 hP hK
  obtain ⟨rfl, hZ, hh⟩ := hP
  have hx := Bd.exec
  have hby := Bd.bytes
  have hml : c.maxLocals = 2 := hml0
  have hown : s.vm.findClass "java/lang/String" = some m.cls := findClass_of_methodNamed Bd.named
  have hnm := (name_of_methodNamed Bd.named Bd.method).1
  have X0 : Stand p l e ({ frames := 5, cells := 2, slots := 9, locals := 74 } : Room) s m #[(.ref a), (.ref cs)] below meth c s₁ [] 0 0 := Stand.of_body Bd
  have e0 : s₁.heap = h0 := by rw [← hh, Bd.state]; rfl
  have N0 := Fr.nil n0
  have Z0 : n0 ≤ h0.size := O0.1 ▸ O0.2.1
  have K0 := Keep.refl h0 []
  show Go p e below (fun oW tW LW => FrameEnd s oW tW LW ({ frames := 5, cells := 2, slots := 9, locals := 74 } : Room).cells ({ frames := 5, cells := 2, slots := 9, locals := 74 } : Room).slots) (Q_rm_in1_3 Z a cs kc u0 u1 u2 csz h0 n0) s₁ (entryFrame m #[(.ref a), (.ref cs)] 2)
  refine Go.of (fun t kz => castTop (ef_rm_in1_3 m a cs) kz) ?_
  show Go _ _ _ _ _ s₁ (mkF m 0 #[.val (.ref a), .val (.ref cs)] [])
  refine Go.of (fun _ kz => XS.aloadN X0.here hx rfl (hb hby d2_0) rfl rfl (XS.aloadN X0.here hx rfl (hb hby d2_1) rfl rfl (XS.iconst X0.here hx rfl (hb hby d2_2) (XS.aloadN X0.here hx rfl (hb hby d2_3) rfl rfl kz)))) ?_
  obtain ⟨cl1a, Ar1a, q1a, S1a, N1a, H1a, G1a⟩ := id Vc
  refine Go.of (fun _ kz => X0.arraylength hx (by rw [e0]; exact Ar1a.1) (State.isArrayOf_alike hZ.alike Ar1a.2.1) (g := (mkF m 4 #[.val (.ref a), .val (.ref cs)] [(.ref cs), (.int (0 : Int32)), (.ref cs), (.ref a)])) rfl rfl (hb hby d2_4) _ kz) ?_
  rw [(len_of S1a N1a)]
  refine Go.of (fun _ kz => XS.aconstNull X0.here hx rfl (hb hby d2_5) kz) ?_
  show Go _ _ _ _ _ s₁ (mkF m 6 #[.val (.ref a), .val (.ref cs)] [.null, (.int (3 : Int32)), (.int (0 : Int32)), (.ref cs), (.ref a)])
  refine Go.callI X0 hx hZ hown (y := y_19) rfl (w13 hw) (w14 hw) (w4 hw) (w16 hw) (by decide) (a := a) (rm_in2_3 l Z a0 hw [] a cs kc u0 u1 u2 csz h0 n0 O0 E Fv Fc ge_a hac Vc Sas Shi Slo Scs hcs) e0 0 (by decide) (by decide) (by rw [hml]; rfl) (argsL := [(.ref cs), (.int (0 : Int32)), (.int (3 : Int32)), .null]) (rest := []) (lenOf pd_13 rfl) rfl rfl (Nat.le_of_eq rfl) (hb hby d2_6) (c2 := 2) (s2 := 9) rfl rfl (by decide) (by decide) fun v2 T2 Lc2 L2 X2 l2 hQ2 => ?_
  obtain ⟨rfl, N2q, hR2⟩ := hQ2
  have N2 : Fr n0 L2 := by rw [l2]; exact Fr.app N0 N2q
  refine Go.ret X2 (v := none) (fun _ => rfl) Bd.notSynchronized (fun fs hr => X2.returnOut hx Bd.returns (hb hby d2_9) hr) (by decide) (by decide) ?_
  show Q_rm_in1_3 Z _ _ _ _ _ _ _ h0 n0 _ T2.heap _
  exact ⟨rfl, N2, hR2⟩

theorem ef_rm_ci_4 (m : MethodId) (x0 : Addr) (x1 : Int32) (x2 : Addr) (x3 : Int32) (x4 : Int32) : entryFrame m #[(.ref x0), (.int x1), (.ref x2), (.int x3), (.int x4)] 7 = mkF m 0 #[.val (.ref x0), .val (.int x1), .val (.ref x2), .val (.int x3), .val (.int x4), .unset, .unset] [] := by first | (simp [entryFrame, mkF, argsToLocals, Value.category]; done) | rfl
def Q_rm_ci_4 (Z : State) (cs : Addr) (bs : Addr) (kc : ClassId) (kb : ClassId) (u0 : UInt16) (u1 : UInt16) (u2 : UInt16) (u3 : UInt16) (h0 : Heap) (n0 : Nat) (v : Option Value) (h : Heap) (L : List Loc) : Prop := ∃ k : Int32, v = some (.int k) ∧ Fr n0 L ∧ Keep h0 h [bs] ∧ ((k = (4 : Int32) ∧ (¬ (255 : Int32) < (own_ch u0) ∧ ¬ (255 : Int32) < (own_ch u1) ∧ ¬ (255 : Int32) < (own_ch u2) ∧ ¬ (255 : Int32) < (own_ch u3)) ∧ Arv Z h bs kb .byte (4 : Int32) [(.int ((own_lo u0).toInt32)), (.int ((own_lo u1).toInt32)), (.int ((own_lo u2).toInt32)), (.int ((own_lo u3).toInt32))] (.int (0 : Int32))) ∨ ((k = (0 : Int32) ∧ (255 : Int32) < (own_ch u0)) ∨ (k = (1 : Int32) ∧ ¬ (255 : Int32) < (own_ch u0) ∧ (255 : Int32) < (own_ch u1)) ∨ (k = (2 : Int32) ∧ ¬ (255 : Int32) < (own_ch u0) ∧ ¬ (255 : Int32) < (own_ch u1) ∧ (255 : Int32) < (own_ch u2)) ∨ (k = (3 : Int32) ∧ ¬ (255 : Int32) < (own_ch u0) ∧ ¬ (255 : Int32) < (own_ch u1) ∧ ¬ (255 : Int32) < (own_ch u2) ∧ (255 : Int32) < (own_ch u3))))
set_option maxRecDepth 65536 in
set_option maxHeartbeats 40000000 in
theorem rm_ci_4 (l : Launch) (Z : State) (a0 : Array Value) (hw : ∀ d ∈ tables_1, d.before a0 Z = true) (wz : List Jvm.Cond) (cs : Addr) (bs : Addr) (kc : ClassId) (kb : ClassId) (u0 : UInt16) (u1 : UInt16) (u2 : UInt16) (u3 : UInt16) (h0 : Heap) (n0 : Nat) (O0 : Old Z n0 h0) (Vc : Arv Z h0 cs kc .char (4 : Int32) [(.int (own_ch u0)), (.int (own_ch u1)), (.int (own_ch u2)), (.int (own_ch u3))] (.int (0 : Int32))) (Vb : Arv Z h0 bs kb .byte (4 : Int32) [(.int (0 : Int32)), (.int (0 : Int32)), (.int (0 : Int32)), (.int (0 : Int32))] (.int (0 : Int32))) (hne : cs ≠ bs) (ge_bs : n0 ≤ bs) :
    MetFree l y_13 (head1 (Jvm.Cond.code y_13 jdk_52_method_21_code 7 (some .int) :: wz) ({ frames := 0, cells := 0, slots := 0, locals := 0 } : Room)) (fun aZ UZ => aZ = #[(.ref cs), (.int (0 : Int32)), (.ref bs), (.int (0 : Int32)), (.int (4 : Int32))] ∧ Z.Warmed39 UZ.vm ∧ UZ.heap = h0) (fun _ _ _ _ _ => True) (fun _ UZ oZ UY => ∃ vZ LZ, oZ = .returned vZ ∧ Q_rm_ci_4 Z cs bs kc kb u0 u1 u2 u3 h0 n0 vZ UY.heap LZ ∧ FrameEnd UZ oZ UY LZ ({ frames := 0, cells := 0, slots := 0, locals := 0 } : Room).cells ({ frames := 0, cells := 0, slots := 0, locals := 0 } : Room).slots) := by
  refine MetFree.of_bodySF (plainFor_of_name pn_8) hisR ?_
  intro p e s m args below meth c s₁ Bd hml0 hP hK
  obtain ⟨rfl, hZ, hh⟩ := hP
  have hx := Bd.exec
  have hby := Bd.bytes
  have hml : c.maxLocals = 7 := hml0
  have hown : s.vm.findClass "java/lang/StringUTF16" = some m.cls := findClass_of_methodNamed Bd.named
  have hnm := (name_of_methodNamed Bd.named Bd.method).1
  have X0 : Stand p l e ({ frames := 0, cells := 0, slots := 0, locals := 0 } : Room) s m #[(.ref cs), (.int (0 : Int32)), (.ref bs), (.int (0 : Int32)), (.int (4 : Int32))] below meth c s₁ [] 0 0 := Stand.of_body Bd
  have e0 : s₁.heap = h0 := by rw [← hh, Bd.state]; rfl
  have N0 := Fr.nil n0
  have Z0 : n0 ≤ h0.size := O0.1 ▸ O0.2.1
  have K0 := Keep.refl h0 []
  show Go p e below (fun oW tW LW => FrameEnd s oW tW LW ({ frames := 0, cells := 0, slots := 0, locals := 0 } : Room).cells ({ frames := 0, cells := 0, slots := 0, locals := 0 } : Room).slots) (Q_rm_ci_4 Z cs bs kc kb u0 u1 u2 u3 h0 n0) s₁ (entryFrame m #[(.ref cs), (.int (0 : Int32)), (.ref bs), (.int (0 : Int32)), (.int (4 : Int32))] 7)
  refine Go.of (fun t kz => castTop (ef_rm_ci_4 m cs (0 : Int32) bs (0 : Int32) (4 : Int32)) kz) ?_
  show Go _ _ _ _ _ s₁ (mkF m 0 #[.val (.ref cs), .val (.int (0 : Int32)), .val (.ref bs), .val (.int (0 : Int32)), .val (.int (4 : Int32)), .unset, .unset] [])
  refine Go.of (fun _ kz => XS.iconst X0.here hx rfl (hb hby d8_0) (XS.istore X0.here hx rfl (hb hby d8_1) rfl (l' := #[.val (.ref cs), .val (.int (0 : Int32)), .val (.ref bs), .val (.int (0 : Int32)), .val (.int (4 : Int32)), .val (.int (0 : Int32)), .unset]) rfl (XS.iload X0.here hx rfl (hb hby d8_3) rfl (XS.iload X0.here hx rfl (hb hby d8_5) rfl kz)))) ?_
  refine Go.of (fun _ kz => XS.icmpNo X0.here hx rfl (hb hby d8_7) rfl (tlt (by decide : (0 : Int32) < (4 : Int32))).2.1 kz) ?_
  refine Go.of (fun _ kz => XS.aloadN X0.here hx rfl (hb hby d8_10) rfl rfl (XS.iloadN X0.here hx rfl (hb hby d8_11) rfl kz)) ?_
  show Go _ _ _ _ _ s₁ (mkF m 12 #[.val (.ref cs), .val (.int (0 : Int32)), .val (.ref bs), .val (.int (0 : Int32)), .val (.int (4 : Int32)), .val (.int (0 : Int32)), .unset] [(.int (0 : Int32)), (.ref cs)])
  obtain ⟨cl1a, Ar1a, q1a, S1a, N1a, H1a, G1a⟩ := id Vc
  have hin1 := inb_of S1a (j := (0 : Int32)) ⟨by decide, by decide⟩
  refine Go.of (fun _ kz => X0.caload hx (j := (0 : Int32)) (v := (.int (own_ch u0))) (by rw [e0]; exact Ar1a.1) (State.isArrayOf_alike hZ.alike Ar1a.2.1) Ar1a.2.2 hin1 (H1a.at hin1 rfl) (g := (mkF m 12 #[.val (.ref cs), .val (.int (0 : Int32)), .val (.ref bs), .val (.int (0 : Int32)), .val (.int (4 : Int32)), .val (.int (0 : Int32)), .unset] [(.int (0 : Int32)), (.ref cs)])) rfl rfl (hb hby d8_12) _ kz) ?_
  refine Go.of (fun _ kz => XS.istore X0.here hx rfl (hb hby d8_13) rfl (l' := #[.val (.ref cs), .val (.int (0 : Int32)), .val (.ref bs), .val (.int (0 : Int32)), .val (.int (4 : Int32)), .val (.int (0 : Int32)), .val (.int (own_ch u0))]) rfl (XS.iload X0.here hx rfl (hb hby d8_15) rfl (XS.sipush X0.here hx rfl (hb hby d8_17) kz))) ?_
  by_cases hc20_2 : (255 : Int32) < (own_ch u0)
  · refine Go.of (fun _ kz => XS.icmpNo X0.here hx rfl (hb hby d8_20) rfl (tlt hc20_2).2.2.2 kz) ?_
    refine Go.of (fun _ kz => XS.iload X0.here hx rfl (hb hby d8_23) rfl kz) ?_
    refine Go.ret X0 (v := some (.int (0 : Int32))) (fun h => by rw [Bd.returns] at h; cases h) Bd.notSynchronized (fun fs hr => own_retI X0 hx Bd.returns (hb hby d8_25) hr) (by decide) (by decide) ?_
    show Q_rm_ci_4 Z _ _ _ _ _ _ _ _ h0 n0 _ s₁.heap _
    rw [e0]
    exact ⟨_, rfl, N0, (Keep.refl h0 [bs]), Or.inr (Or.inl ⟨rfl, hc20_2⟩)⟩
  · refine Go.of (fun _ kz => XS.icmpYes X0.here hx rfl (pc0 := 20) (pc' := 26) rfl (hb hby d8_20) rfl (flt hc20_2).2.2.2 (by decide) (by decide) kz) ?_
    refine Go.of (fun _ kz => XS.aloadN X0.here hx rfl (hb hby d8_26) rfl rfl (XS.iloadN X0.here hx rfl (hb hby d8_27) rfl (XS.iload X0.here hx rfl (hb hby d8_28) rfl (XS.i2b X0.here hx rfl (hb hby d8_30) rfl kz)))) ?_
    show Go _ _ _ _ _ s₁ (mkF m 31 #[.val (.ref cs), .val (.int (0 : Int32)), .val (.ref bs), .val (.int (0 : Int32)), .val (.int (4 : Int32)), .val (.int (0 : Int32)), .val (.int (own_ch u0))] [(.int ((own_lo u0).toInt32)), (.int (0 : Int32)), (.ref bs)])
    obtain ⟨cl3a, Ar3a, q3a, S3a, N3a, H3a, G3a⟩ := id Vb
    have hin3 := inb_of S3a (j := (0 : Int32)) ⟨by decide, by decide⟩
    obtain ⟨T3, h3, X3, e3, W3, st3⟩ := stB X0 hx hZ e0 Ar3a (j := (0 : Int32)) hin3 (g := (mkF m 31 #[.val (.ref cs), .val (.int (0 : Int32)), .val (.ref bs), .val (.int (0 : Int32)), .val (.int (4 : Int32)), .val (.int (0 : Int32)), .val (.int (own_ch u0))] [(.int ((own_lo u0).toInt32)), (.int (0 : Int32)), (.ref bs)])) rfl rfl (hb hby d8_31)
    rw [own_narb (own_lo u0)] at W3
    have V3_bs : Arv Z h3 bs kb .byte (4 : Int32) [(.int ((own_lo u0).toInt32)), (.int (0 : Int32)), (.int (0 : Int32)), (.int (0 : Int32))] (.int (0 : Int32)) := Arv.set Ar3a q3a S3a N3a H3a G3a (own_fitb _) W3 0 rfl (Nat.le_of_ble_eq_true rfl)
    have f3_Arv_cs := Vc.other W3 hne
    have O3 := O0.wr W3 ge_bs
    have Kk3 := (Keep.refl h0 [bs]).wr W3 (Or.inl (List.mem_singleton.mpr rfl))
    have N3 := Fr.snoc X3 N0 ge_bs
    refine Go.of (fun _ kz => st3 _ kz) ?_
    refine Go.of (fun _ kz => XS.iinc X3.here hx rfl (hb hby d8_32) rfl (l' := #[.val (.ref cs), .val (.int (1 : Int32)), .val (.ref bs), .val (.int (0 : Int32)), .val (.int (4 : Int32)), .val (.int (0 : Int32)), .val (.int (own_ch u0))]) rfl (XS.iinc X3.here hx rfl (hb hby d8_35) rfl (l' := #[.val (.ref cs), .val (.int (1 : Int32)), .val (.ref bs), .val (.int (1 : Int32)), .val (.int (4 : Int32)), .val (.int (0 : Int32)), .val (.int (own_ch u0))]) rfl (XS.iinc X3.here hx rfl (hb hby d8_38) rfl (l' := #[.val (.ref cs), .val (.int (1 : Int32)), .val (.ref bs), .val (.int (1 : Int32)), .val (.int (4 : Int32)), .val (.int (1 : Int32)), .val (.int (own_ch u0))]) rfl (XS.goto X3.here hx rfl (pc0 := 41) (pc' := 3) rfl (hb hby d8_41) (by decide) (by decide) (XS.iload X3.here hx rfl (hb hby d8_3) rfl (XS.iload X3.here hx rfl (hb hby d8_5) rfl kz)))))) ?_
    show Go _ _ _ _ _ T3 (mkF m 7 #[.val (.ref cs), .val (.int (1 : Int32)), .val (.ref bs), .val (.int (1 : Int32)), .val (.int (4 : Int32)), .val (.int (1 : Int32)), .val (.int (own_ch u0))] [(.int (4 : Int32)), (.int (1 : Int32))])
    refine Go.of (fun _ kz => XS.icmpNo X3.here hx rfl (hb hby d8_7) rfl (tlt (by decide : (1 : Int32) < (4 : Int32))).2.1 kz) ?_
    refine Go.of (fun _ kz => XS.aloadN X3.here hx rfl (hb hby d8_10) rfl rfl (XS.iloadN X3.here hx rfl (hb hby d8_11) rfl kz)) ?_
    obtain ⟨cl4a, Ar4a, q4a, S4a, N4a, H4a, G4a⟩ := id f3_Arv_cs
    have hin4 := inb_of S4a (j := (1 : Int32)) ⟨by decide, by decide⟩
    refine Go.of (fun _ kz => X3.caload hx (j := (1 : Int32)) (v := (.int (own_ch u1))) (by rw [e3]; exact Ar4a.1) (State.isArrayOf_alike hZ.alike Ar4a.2.1) Ar4a.2.2 hin4 (H4a.at hin4 rfl) (g := (mkF m 12 #[.val (.ref cs), .val (.int (1 : Int32)), .val (.ref bs), .val (.int (1 : Int32)), .val (.int (4 : Int32)), .val (.int (1 : Int32)), .val (.int (own_ch u0))] [(.int (1 : Int32)), (.ref cs)])) rfl rfl (hb hby d8_12) _ kz) ?_
    refine Go.of (fun _ kz => XS.istore X3.here hx rfl (hb hby d8_13) rfl (l' := #[.val (.ref cs), .val (.int (1 : Int32)), .val (.ref bs), .val (.int (1 : Int32)), .val (.int (4 : Int32)), .val (.int (1 : Int32)), .val (.int (own_ch u1))]) rfl (XS.iload X3.here hx rfl (hb hby d8_15) rfl (XS.sipush X3.here hx rfl (hb hby d8_17) kz))) ?_
    show Go _ _ _ _ _ T3 (mkF m 20 #[.val (.ref cs), .val (.int (1 : Int32)), .val (.ref bs), .val (.int (1 : Int32)), .val (.int (4 : Int32)), .val (.int (1 : Int32)), .val (.int (own_ch u1))] [(.int (255 : Int32)), (.int (own_ch u1))])
    by_cases hc20_5 : (255 : Int32) < (own_ch u1)
    · refine Go.of (fun _ kz => XS.icmpNo X3.here hx rfl (hb hby d8_20) rfl (tlt hc20_5).2.2.2 kz) ?_
      refine Go.of (fun _ kz => XS.iload X3.here hx rfl (hb hby d8_23) rfl kz) ?_
      refine Go.ret X3 (v := some (.int (1 : Int32))) (fun h => by rw [Bd.returns] at h; cases h) Bd.notSynchronized (fun fs hr => own_retI X3 hx Bd.returns (hb hby d8_25) hr) (by decide) (by decide) ?_
      show Q_rm_ci_4 Z _ _ _ _ _ _ _ _ h0 n0 _ T3.heap _
      rw [e3]
      exact ⟨_, rfl, N3, Kk3, Or.inr (Or.inr (Or.inl ⟨rfl, hc20_2, hc20_5⟩))⟩
    · refine Go.of (fun _ kz => XS.icmpYes X3.here hx rfl (pc0 := 20) (pc' := 26) rfl (hb hby d8_20) rfl (flt hc20_5).2.2.2 (by decide) (by decide) kz) ?_
      refine Go.of (fun _ kz => XS.aloadN X3.here hx rfl (hb hby d8_26) rfl rfl (XS.iloadN X3.here hx rfl (hb hby d8_27) rfl (XS.iload X3.here hx rfl (hb hby d8_28) rfl (XS.i2b X3.here hx rfl (hb hby d8_30) rfl kz)))) ?_
      obtain ⟨cl6a, Ar6a, q6a, S6a, N6a, H6a, G6a⟩ := id V3_bs
      have hin6 := inb_of S6a (j := (1 : Int32)) ⟨by decide, by decide⟩
      obtain ⟨T6, h6, X6, e6, W6, st6⟩ := stB X3 hx hZ e3 Ar6a (j := (1 : Int32)) hin6 (g := (mkF m 31 #[.val (.ref cs), .val (.int (1 : Int32)), .val (.ref bs), .val (.int (1 : Int32)), .val (.int (4 : Int32)), .val (.int (1 : Int32)), .val (.int (own_ch u1))] [(.int ((own_lo u1).toInt32)), (.int (1 : Int32)), (.ref bs)])) rfl rfl (hb hby d8_31)
      rw [own_narb (own_lo u1)] at W6
      have V6_bs : Arv Z h6 bs kb .byte (4 : Int32) [(.int ((own_lo u0).toInt32)), (.int ((own_lo u1).toInt32)), (.int (0 : Int32)), (.int (0 : Int32))] (.int (0 : Int32)) := Arv.set Ar6a q6a S6a N6a H6a G6a (own_fitb _) W6 1 rfl (Nat.le_of_ble_eq_true rfl)
      have f6_Arv_cs := f3_Arv_cs.other W6 hne
      have O6 := O3.wr W6 ge_bs
      have Kk6 := Kk3.wr W6 (Or.inl (List.mem_singleton.mpr rfl))
      have N6 := Fr.snoc X6 N3 ge_bs
      refine Go.of (fun _ kz => st6 _ kz) ?_
      refine Go.of (fun _ kz => XS.iinc X6.here hx rfl (hb hby d8_32) rfl (l' := #[.val (.ref cs), .val (.int (2 : Int32)), .val (.ref bs), .val (.int (1 : Int32)), .val (.int (4 : Int32)), .val (.int (1 : Int32)), .val (.int (own_ch u1))]) rfl (XS.iinc X6.here hx rfl (hb hby d8_35) rfl (l' := #[.val (.ref cs), .val (.int (2 : Int32)), .val (.ref bs), .val (.int (2 : Int32)), .val (.int (4 : Int32)), .val (.int (1 : Int32)), .val (.int (own_ch u1))]) rfl (XS.iinc X6.here hx rfl (hb hby d8_38) rfl (l' := #[.val (.ref cs), .val (.int (2 : Int32)), .val (.ref bs), .val (.int (2 : Int32)), .val (.int (4 : Int32)), .val (.int (2 : Int32)), .val (.int (own_ch u1))]) rfl (XS.goto X6.here hx rfl (pc0 := 41) (pc' := 3) rfl (hb hby d8_41) (by decide) (by decide) (XS.iload X6.here hx rfl (hb hby d8_3) rfl (XS.iload X6.here hx rfl (hb hby d8_5) rfl kz)))))) ?_
      show Go _ _ _ _ _ T6 (mkF m 7 #[.val (.ref cs), .val (.int (2 : Int32)), .val (.ref bs), .val (.int (2 : Int32)), .val (.int (4 : Int32)), .val (.int (2 : Int32)), .val (.int (own_ch u1))] [(.int (4 : Int32)), (.int (2 : Int32))])
      refine Go.of (fun _ kz => XS.icmpNo X6.here hx rfl (hb hby d8_7) rfl (tlt (by decide : (2 : Int32) < (4 : Int32))).2.1 kz) ?_
      refine Go.of (fun _ kz => XS.aloadN X6.here hx rfl (hb hby d8_10) rfl rfl (XS.iloadN X6.here hx rfl (hb hby d8_11) rfl kz)) ?_
      obtain ⟨cl7a, Ar7a, q7a, S7a, N7a, H7a, G7a⟩ := id f6_Arv_cs
      have hin7 := inb_of S7a (j := (2 : Int32)) ⟨by decide, by decide⟩
      refine Go.of (fun _ kz => X6.caload hx (j := (2 : Int32)) (v := (.int (own_ch u2))) (by rw [e6]; exact Ar7a.1) (State.isArrayOf_alike hZ.alike Ar7a.2.1) Ar7a.2.2 hin7 (H7a.at hin7 rfl) (g := (mkF m 12 #[.val (.ref cs), .val (.int (2 : Int32)), .val (.ref bs), .val (.int (2 : Int32)), .val (.int (4 : Int32)), .val (.int (2 : Int32)), .val (.int (own_ch u1))] [(.int (2 : Int32)), (.ref cs)])) rfl rfl (hb hby d8_12) _ kz) ?_
      refine Go.of (fun _ kz => XS.istore X6.here hx rfl (hb hby d8_13) rfl (l' := #[.val (.ref cs), .val (.int (2 : Int32)), .val (.ref bs), .val (.int (2 : Int32)), .val (.int (4 : Int32)), .val (.int (2 : Int32)), .val (.int (own_ch u2))]) rfl (XS.iload X6.here hx rfl (hb hby d8_15) rfl (XS.sipush X6.here hx rfl (hb hby d8_17) kz))) ?_
      show Go _ _ _ _ _ T6 (mkF m 20 #[.val (.ref cs), .val (.int (2 : Int32)), .val (.ref bs), .val (.int (2 : Int32)), .val (.int (4 : Int32)), .val (.int (2 : Int32)), .val (.int (own_ch u2))] [(.int (255 : Int32)), (.int (own_ch u2))])
      by_cases hc20_8 : (255 : Int32) < (own_ch u2)
      · refine Go.of (fun _ kz => XS.icmpNo X6.here hx rfl (hb hby d8_20) rfl (tlt hc20_8).2.2.2 kz) ?_
        refine Go.of (fun _ kz => XS.iload X6.here hx rfl (hb hby d8_23) rfl kz) ?_
        refine Go.ret X6 (v := some (.int (2 : Int32))) (fun h => by rw [Bd.returns] at h; cases h) Bd.notSynchronized (fun fs hr => own_retI X6 hx Bd.returns (hb hby d8_25) hr) (by decide) (by decide) ?_
        show Q_rm_ci_4 Z _ _ _ _ _ _ _ _ h0 n0 _ T6.heap _
        rw [e6]
        exact ⟨_, rfl, N6, Kk6, Or.inr (Or.inr (Or.inr (Or.inl ⟨rfl, hc20_2, hc20_5, hc20_8⟩)))⟩
      · refine Go.of (fun _ kz => XS.icmpYes X6.here hx rfl (pc0 := 20) (pc' := 26) rfl (hb hby d8_20) rfl (flt hc20_8).2.2.2 (by decide) (by decide) kz) ?_
        refine Go.of (fun _ kz => XS.aloadN X6.here hx rfl (hb hby d8_26) rfl rfl (XS.iloadN X6.here hx rfl (hb hby d8_27) rfl (XS.iload X6.here hx rfl (hb hby d8_28) rfl (XS.i2b X6.here hx rfl (hb hby d8_30) rfl kz)))) ?_
        obtain ⟨cl9a, Ar9a, q9a, S9a, N9a, H9a, G9a⟩ := id V6_bs
        have hin9 := inb_of S9a (j := (2 : Int32)) ⟨by decide, by decide⟩
        obtain ⟨T9, h9, X9, e9, W9, st9⟩ := stB X6 hx hZ e6 Ar9a (j := (2 : Int32)) hin9 (g := (mkF m 31 #[.val (.ref cs), .val (.int (2 : Int32)), .val (.ref bs), .val (.int (2 : Int32)), .val (.int (4 : Int32)), .val (.int (2 : Int32)), .val (.int (own_ch u2))] [(.int ((own_lo u2).toInt32)), (.int (2 : Int32)), (.ref bs)])) rfl rfl (hb hby d8_31)
        rw [own_narb (own_lo u2)] at W9
        have V9_bs : Arv Z h9 bs kb .byte (4 : Int32) [(.int ((own_lo u0).toInt32)), (.int ((own_lo u1).toInt32)), (.int ((own_lo u2).toInt32)), (.int (0 : Int32))] (.int (0 : Int32)) := Arv.set Ar9a q9a S9a N9a H9a G9a (own_fitb _) W9 2 rfl (Nat.le_of_ble_eq_true rfl)
        have f9_Arv_cs := f6_Arv_cs.other W9 hne
        have O9 := O6.wr W9 ge_bs
        have Kk9 := Kk6.wr W9 (Or.inl (List.mem_singleton.mpr rfl))
        have N9 := Fr.snoc X9 N6 ge_bs
        refine Go.of (fun _ kz => st9 _ kz) ?_
        refine Go.of (fun _ kz => XS.iinc X9.here hx rfl (hb hby d8_32) rfl (l' := #[.val (.ref cs), .val (.int (3 : Int32)), .val (.ref bs), .val (.int (2 : Int32)), .val (.int (4 : Int32)), .val (.int (2 : Int32)), .val (.int (own_ch u2))]) rfl (XS.iinc X9.here hx rfl (hb hby d8_35) rfl (l' := #[.val (.ref cs), .val (.int (3 : Int32)), .val (.ref bs), .val (.int (3 : Int32)), .val (.int (4 : Int32)), .val (.int (2 : Int32)), .val (.int (own_ch u2))]) rfl (XS.iinc X9.here hx rfl (hb hby d8_38) rfl (l' := #[.val (.ref cs), .val (.int (3 : Int32)), .val (.ref bs), .val (.int (3 : Int32)), .val (.int (4 : Int32)), .val (.int (3 : Int32)), .val (.int (own_ch u2))]) rfl (XS.goto X9.here hx rfl (pc0 := 41) (pc' := 3) rfl (hb hby d8_41) (by decide) (by decide) (XS.iload X9.here hx rfl (hb hby d8_3) rfl (XS.iload X9.here hx rfl (hb hby d8_5) rfl kz)))))) ?_
        show Go _ _ _ _ _ T9 (mkF m 7 #[.val (.ref cs), .val (.int (3 : Int32)), .val (.ref bs), .val (.int (3 : Int32)), .val (.int (4 : Int32)), .val (.int (3 : Int32)), .val (.int (own_ch u2))] [(.int (4 : Int32)), (.int (3 : Int32))])
        refine Go.of (fun _ kz => XS.icmpNo X9.here hx rfl (hb hby d8_7) rfl (tlt (by decide : (3 : Int32) < (4 : Int32))).2.1 kz) ?_
        refine Go.of (fun _ kz => XS.aloadN X9.here hx rfl (hb hby d8_10) rfl rfl (XS.iloadN X9.here hx rfl (hb hby d8_11) rfl kz)) ?_
        obtain ⟨cl10a, Ar10a, q10a, S10a, N10a, H10a, G10a⟩ := id f9_Arv_cs
        have hin10 := inb_of S10a (j := (3 : Int32)) ⟨by decide, by decide⟩
        refine Go.of (fun _ kz => X9.caload hx (j := (3 : Int32)) (v := (.int (own_ch u3))) (by rw [e9]; exact Ar10a.1) (State.isArrayOf_alike hZ.alike Ar10a.2.1) Ar10a.2.2 hin10 (H10a.at hin10 rfl) (g := (mkF m 12 #[.val (.ref cs), .val (.int (3 : Int32)), .val (.ref bs), .val (.int (3 : Int32)), .val (.int (4 : Int32)), .val (.int (3 : Int32)), .val (.int (own_ch u2))] [(.int (3 : Int32)), (.ref cs)])) rfl rfl (hb hby d8_12) _ kz) ?_
        refine Go.of (fun _ kz => XS.istore X9.here hx rfl (hb hby d8_13) rfl (l' := #[.val (.ref cs), .val (.int (3 : Int32)), .val (.ref bs), .val (.int (3 : Int32)), .val (.int (4 : Int32)), .val (.int (3 : Int32)), .val (.int (own_ch u3))]) rfl (XS.iload X9.here hx rfl (hb hby d8_15) rfl (XS.sipush X9.here hx rfl (hb hby d8_17) kz))) ?_
        show Go _ _ _ _ _ T9 (mkF m 20 #[.val (.ref cs), .val (.int (3 : Int32)), .val (.ref bs), .val (.int (3 : Int32)), .val (.int (4 : Int32)), .val (.int (3 : Int32)), .val (.int (own_ch u3))] [(.int (255 : Int32)), (.int (own_ch u3))])
        by_cases hc20_11 : (255 : Int32) < (own_ch u3)
        · refine Go.of (fun _ kz => XS.icmpNo X9.here hx rfl (hb hby d8_20) rfl (tlt hc20_11).2.2.2 kz) ?_
          refine Go.of (fun _ kz => XS.iload X9.here hx rfl (hb hby d8_23) rfl kz) ?_
          refine Go.ret X9 (v := some (.int (3 : Int32))) (fun h => by rw [Bd.returns] at h; cases h) Bd.notSynchronized (fun fs hr => own_retI X9 hx Bd.returns (hb hby d8_25) hr) (by decide) (by decide) ?_
          show Q_rm_ci_4 Z _ _ _ _ _ _ _ _ h0 n0 _ T9.heap _
          rw [e9]
          exact ⟨_, rfl, N9, Kk9, Or.inr (Or.inr (Or.inr (Or.inr (⟨rfl, hc20_2, hc20_5, hc20_8, hc20_11⟩))))⟩
        · refine Go.of (fun _ kz => XS.icmpYes X9.here hx rfl (pc0 := 20) (pc' := 26) rfl (hb hby d8_20) rfl (flt hc20_11).2.2.2 (by decide) (by decide) kz) ?_
          refine Go.of (fun _ kz => XS.aloadN X9.here hx rfl (hb hby d8_26) rfl rfl (XS.iloadN X9.here hx rfl (hb hby d8_27) rfl (XS.iload X9.here hx rfl (hb hby d8_28) rfl (XS.i2b X9.here hx rfl (hb hby d8_30) rfl kz)))) ?_
          obtain ⟨cl12a, Ar12a, q12a, S12a, N12a, H12a, G12a⟩ := id V9_bs
          have hin12 := inb_of S12a (j := (3 : Int32)) ⟨by decide, by decide⟩
          obtain ⟨T12, h12, X12, e12, W12, st12⟩ := stB X9 hx hZ e9 Ar12a (j := (3 : Int32)) hin12 (g := (mkF m 31 #[.val (.ref cs), .val (.int (3 : Int32)), .val (.ref bs), .val (.int (3 : Int32)), .val (.int (4 : Int32)), .val (.int (3 : Int32)), .val (.int (own_ch u3))] [(.int ((own_lo u3).toInt32)), (.int (3 : Int32)), (.ref bs)])) rfl rfl (hb hby d8_31)
          rw [own_narb (own_lo u3)] at W12
          have V12_bs : Arv Z h12 bs kb .byte (4 : Int32) [(.int ((own_lo u0).toInt32)), (.int ((own_lo u1).toInt32)), (.int ((own_lo u2).toInt32)), (.int ((own_lo u3).toInt32))] (.int (0 : Int32)) := Arv.set Ar12a q12a S12a N12a H12a G12a (own_fitb _) W12 3 rfl (Nat.le_of_ble_eq_true rfl)
          have f12_Arv_cs := f9_Arv_cs.other W12 hne
          have O12 := O9.wr W12 ge_bs
          have Kk12 := Kk9.wr W12 (Or.inl (List.mem_singleton.mpr rfl))
          have N12 := Fr.snoc X12 N9 ge_bs
          refine Go.of (fun _ kz => st12 _ kz) ?_
          refine Go.of (fun _ kz => XS.iinc X12.here hx rfl (hb hby d8_32) rfl (l' := #[.val (.ref cs), .val (.int (4 : Int32)), .val (.ref bs), .val (.int (3 : Int32)), .val (.int (4 : Int32)), .val (.int (3 : Int32)), .val (.int (own_ch u3))]) rfl (XS.iinc X12.here hx rfl (hb hby d8_35) rfl (l' := #[.val (.ref cs), .val (.int (4 : Int32)), .val (.ref bs), .val (.int (4 : Int32)), .val (.int (4 : Int32)), .val (.int (3 : Int32)), .val (.int (own_ch u3))]) rfl (XS.iinc X12.here hx rfl (hb hby d8_38) rfl (l' := #[.val (.ref cs), .val (.int (4 : Int32)), .val (.ref bs), .val (.int (4 : Int32)), .val (.int (4 : Int32)), .val (.int (4 : Int32)), .val (.int (own_ch u3))]) rfl (XS.goto X12.here hx rfl (pc0 := 41) (pc' := 3) rfl (hb hby d8_41) (by decide) (by decide) (XS.iload X12.here hx rfl (hb hby d8_3) rfl (XS.iload X12.here hx rfl (hb hby d8_5) rfl kz)))))) ?_
          show Go _ _ _ _ _ T12 (mkF m 7 #[.val (.ref cs), .val (.int (4 : Int32)), .val (.ref bs), .val (.int (4 : Int32)), .val (.int (4 : Int32)), .val (.int (4 : Int32)), .val (.int (own_ch u3))] [(.int (4 : Int32)), (.int (4 : Int32))])
          refine Go.of (fun _ kz => XS.icmpYes X12.here hx rfl (pc0 := 7) (pc' := 44) rfl (hb hby d8_7) rfl (flt (by decide : ¬ (4 : Int32) < (4 : Int32))).2.1 (by decide) (by decide) kz) ?_
          refine Go.of (fun _ kz => XS.iload X12.here hx rfl (hb hby d8_44) rfl kz) ?_
          refine Go.ret X12 (v := some (.int (4 : Int32))) (fun h => by rw [Bd.returns] at h; cases h) Bd.notSynchronized (fun fs hr => own_retI X12 hx Bd.returns (hb hby d8_46) hr) (by decide) (by decide) ?_
          show Q_rm_ci_4 Z _ _ _ _ _ _ _ _ h0 n0 _ T12.heap _
          rw [e12]
          exact ⟨_, rfl, N12, Kk12, Or.inl ⟨rfl, ⟨hc20_2, hc20_5, hc20_8, hc20_11⟩, V12_bs⟩⟩

theorem ef_rm_nbl_4 (m : MethodId) (x0 : Int32) : entryFrame m #[(.int x0)] 1 = mkF m 0 #[.val (.int x0)] [] := by first | (simp [entryFrame, mkF, argsToLocals, Value.category]; done) | rfl
def Q_rm_nbl_4 (Z : State)  (h0 : Heap) (n0 : Nat) (v : Option Value) (h : Heap) (L : List Loc) : Prop := v = some (.int (8 : Int32)) ∧ Fr n0 L ∧ h = h0
set_option maxRecDepth 65536 in
set_option maxHeartbeats 40000000 in
theorem rm_nbl_4 (l : Launch) (Z : State) (a0 : Array Value) (hw : ∀ d ∈ tables_1, d.before a0 Z = true) (wz : List Jvm.Cond)  (h0 : Heap) (n0 : Nat) (O0 : Old Z n0 h0) :
    MetFree l y_14 (head1 (Jvm.Cond.code y_14 jdk_52_method_3_code 1 (some .int) :: wz) ({ frames := 0, cells := 0, slots := 0, locals := 0 } : Room)) (fun aZ UZ => aZ = #[(.int (4 : Int32))] ∧ Z.Warmed39 UZ.vm ∧ UZ.heap = h0) (fun _ _ _ _ _ => True) (fun _ UZ oZ UY => ∃ vZ LZ, oZ = .returned vZ ∧ Q_rm_nbl_4 Z  h0 n0 vZ UY.heap LZ ∧ FrameEnd UZ oZ UY LZ ({ frames := 0, cells := 0, slots := 0, locals := 0 } : Room).cells ({ frames := 0, cells := 0, slots := 0, locals := 0 } : Room).slots) := by
  refine MetFree.of_bodySF (plainFor_of_name pn_19) hisR ?_
  intro p e s m args below meth c s₁ Bd hml0 hP hK
  obtain ⟨rfl, hZ, hh⟩ := hP
  have hx := Bd.exec
  have hby := Bd.bytes
  have hml : c.maxLocals = 1 := hml0
  have hown : s.vm.findClass "java/lang/StringUTF16" = some m.cls := findClass_of_methodNamed Bd.named
  have hnm := (name_of_methodNamed Bd.named Bd.method).1
  have X0 : Stand p l e ({ frames := 0, cells := 0, slots := 0, locals := 0 } : Room) s m #[(.int (4 : Int32))] below meth c s₁ [] 0 0 := Stand.of_body Bd
  have e0 : s₁.heap = h0 := by rw [← hh, Bd.state]; rfl
  have N0 := Fr.nil n0
  have Z0 : n0 ≤ h0.size := O0.1 ▸ O0.2.1
  have K0 := Keep.refl h0 []
  show Go p e below (fun oW tW LW => FrameEnd s oW tW LW ({ frames := 0, cells := 0, slots := 0, locals := 0 } : Room).cells ({ frames := 0, cells := 0, slots := 0, locals := 0 } : Room).slots) (Q_rm_nbl_4 Z  h0 n0) s₁ (entryFrame m #[(.int (4 : Int32))] 1)
  refine Go.of (fun t kz => castTop (ef_rm_nbl_4 m (4 : Int32)) kz) ?_
  show Go _ _ _ _ _ s₁ (mkF m 0 #[.val (.int (4 : Int32))] [])
  refine Go.of (fun _ kz => XS.iloadN X0.here hx rfl (hb hby d19_0) rfl kz) ?_
  refine Go.of (fun _ kz => XS.ifYes X0.here hx rfl (pc0 := 1) (pc' := 12) rfl (hb hby d19_1) rfl ((if0 _ _).trans (flt (by decide : ¬ (4 : Int32) < (0 : Int32))).2.1) (by decide) (by decide) kz) ?_
  refine Go.of (fun _ kz => XS.iloadN X0.here hx rfl (hb hby d19_12) rfl (X0.ldcInt hx hown (mvT hZ (w85 hw)) (g := (mkF m 13 #[.val (.int (4 : Int32))] [(.int (4 : Int32))])) rfl (hb hby d19_13) _ kz)) ?_
  refine Go.of (fun _ kz => XS.icmpYes X0.here hx rfl (pc0 := 15) (pc' := 55) rfl (hb hby d19_15) rfl (tlt (by decide : (4 : Int32) < (1073741823 : Int32))).1 (by decide) (by decide) kz) ?_
  refine Go.of (fun _ kz => XS.iloadN X0.here hx rfl (hb hby d19_55) rfl (XS.iconst X0.here hx rfl (hb hby d19_56) (XS.ishl X0.here hx rfl (hb hby d19_57) rfl kz))) ?_
  show Go _ _ _ _ _ s₁ (mkF m 58 #[.val (.int (4 : Int32))] [(.int ((4 : Int32) <<< ((1 : Int32) &&& 31)))])
  rw [(by decide : ((4 : Int32) <<< ((1 : Int32) &&& 31)) = (8 : Int32))]
  show Go _ _ _ _ _ s₁ (mkF m 58 #[.val (.int (4 : Int32))] [(.int (8 : Int32))])
  refine Go.ret X0 (v := some (.int (8 : Int32))) (fun h => by rw [Bd.returns] at h; cases h) Bd.notSynchronized (fun fs hr => own_retI X0 hx Bd.returns (hb hby d19_58) hr) (by decide) (by decide) ?_
  show Q_rm_nbl_4 Z  h0 n0 _ s₁.heap _
  rw [e0]
  exact ⟨rfl, N0, rfl⟩

theorem ef_rm_nbf_4 (m : MethodId) (x0 : Int32) : entryFrame m #[(.int x0)] 1 = mkF m 0 #[.val (.int x0)] [] := by first | (simp [entryFrame, mkF, argsToLocals, Value.category]; done) | rfl
def Q_rm_nbf_4 (Z : State)  (h0 : Heap) (n0 : Nat) (v : Option Value) (h : Heap) (L : List Loc) : Prop := ∃ (b : Addr) (kb : ClassId), v = some (.ref b) ∧ Fr n0 L ∧ Keep h0 h [] ∧ h0.size ≤ b ∧ Arv Z h b kb .byte (8 : Int32) [(.int (0 : Int32)), (.int (0 : Int32)), (.int (0 : Int32)), (.int (0 : Int32)), (.int (0 : Int32)), (.int (0 : Int32)), (.int (0 : Int32)), (.int (0 : Int32))] (.int (0 : Int32))
set_option maxRecDepth 65536 in
set_option maxHeartbeats 40000000 in
theorem rm_nbf_4 (l : Launch) (Z : State) (a0 : Array Value) (hw : ∀ d ∈ tables_1, d.before a0 Z = true) (wz : List Jvm.Cond)  (h0 : Heap) (n0 : Nat) (O0 : Old Z n0 h0) :
    MetFree l y_15 (head1 (Jvm.Cond.code y_15 jdk_52_method_2_code 1 (some (.array .byte)) :: wz) ({ frames := 1, cells := 1, slots := 8, locals := 12 } : Room)) (fun aZ UZ => aZ = #[(.int (4 : Int32))] ∧ Z.Warmed39 UZ.vm ∧ UZ.heap = h0) (fun _ _ _ _ _ => True) (fun _ UZ oZ UY => ∃ vZ LZ, oZ = .returned vZ ∧ Q_rm_nbf_4 Z  h0 n0 vZ UY.heap LZ ∧ FrameEnd UZ oZ UY LZ ({ frames := 1, cells := 1, slots := 8, locals := 12 } : Room).cells ({ frames := 1, cells := 1, slots := 8, locals := 12 } : Room).slots) := by
  refine MetFree.of_bodySF (plainFor_of_name pn_18) hisR ?_
  intro p e s m args below meth c s₁ Bd hml0 hP hK
  obtain ⟨rfl, hZ, hh⟩ := hP
  have hx := Bd.exec
  have hby := Bd.bytes
  have hml : c.maxLocals = 1 := hml0
  have hown : s.vm.findClass "java/lang/StringUTF16" = some m.cls := findClass_of_methodNamed Bd.named
  have hnm := (name_of_methodNamed Bd.named Bd.method).1
  have X0 : Stand p l e ({ frames := 1, cells := 1, slots := 8, locals := 12 } : Room) s m #[(.int (4 : Int32))] below meth c s₁ [] 0 0 := Stand.of_body Bd
  have e0 : s₁.heap = h0 := by rw [← hh, Bd.state]; rfl
  have N0 := Fr.nil n0
  have Z0 : n0 ≤ h0.size := O0.1 ▸ O0.2.1
  have K0 := Keep.refl h0 []
  show Go p e below (fun oW tW LW => FrameEnd s oW tW LW ({ frames := 1, cells := 1, slots := 8, locals := 12 } : Room).cells ({ frames := 1, cells := 1, slots := 8, locals := 12 } : Room).slots) (Q_rm_nbf_4 Z  h0 n0) s₁ (entryFrame m #[(.int (4 : Int32))] 1)
  refine Go.of (fun t kz => castTop (ef_rm_nbf_4 m (4 : Int32)) kz) ?_
  show Go _ _ _ _ _ s₁ (mkF m 0 #[.val (.int (4 : Int32))] [])
  refine Go.of (fun _ kz => XS.iloadN X0.here hx rfl (hb hby d18_0) rfl kz) ?_
  show Go _ _ _ _ _ s₁ (mkF m 1 #[.val (.int (4 : Int32))] [(.int (4 : Int32))])
  refine Go.callS X0 hx hZ hown (y := y_14) (w82 hw) (w83 hw) (w40 hw) (w84 hw) (by decide) (rm_nbl_4 l Z a0 hw [] h0 n0 O0) e0 0 (by decide) (by decide) (by rw [hml]; rfl) (argsL := [(.int (4 : Int32))]) (rest := []) (lenOf pd_7 rfl) rfl rfl (Nat.le_of_eq rfl) (hb hby d18_1) (c2 := 0) (s2 := 0) rfl rfl (by decide) (by decide) fun v1 T1 Lc1 L1 X1 l1 hQ1 => ?_
  obtain ⟨rfl, N1q, e1⟩ := hQ1
  have N1 : Fr n0 L1 := by rw [l1]; exact Fr.app N0 N1q
  obtain ⟨T2, h2, k2, X2, e2, E2, A2, st2⟩ := newP (aty := .byte) X1 hx hZ (w21 hw) e1 (g := (mkF m 4 #[.val (.int (4 : Int32))] [(.int (8 : Int32))])) rfl (hb hby d18_4) rfl (by decide) (cap := 8) (by decide) (by decide) (by decide) (by decide)
  obtain ⟨b2, g2⟩ : ∃ z, z = h0.size := ⟨_, rfl⟩
  rw [← g2] at A2 st2
  have ge_b2 : n0 ≤ b2 := Nat.le_trans (O0.1 ▸ O0.2.1) (Nat.le_of_eq g2.symm)
  have hsz_b2 := Nat.le_of_eq g2.symm
  have sz_b2 : h0.size ≤ b2 := Nat.le_trans (Keep.refl h0 []).1 (Nat.le_of_eq g2.symm)
  have O2 := O0.ext E2
  have Kk2 := (Keep.refl h0 []).ext E2
  have V_b2 : Arv Z h2 b2 k2 .byte (8 : Int32) [(.int (0 : Int32)), (.int (0 : Int32)), (.int (0 : Int32)), (.int (0 : Int32)), (.int (0 : Int32)), (.int (0 : Int32)), (.int (0 : Int32)), (.int (0 : Int32))] (.int (0 : Int32)) := (Arv.new A2 (by decide)).pad (pad_rep [] (.int (0 : Int32)) 8)
  refine Go.of (fun _ kz => st2 _ kz) ?_
  refine Go.ret X2 (v := some (.ref b2)) (fun h => by rw [Bd.returns] at h; cases h) Bd.notSynchronized (fun fs hr => retOut X2 hx Bd.returns rfl (Or.inr (Or.inr (Or.inr (Or.inr ⟨rfl, rfl, rfl⟩)))) (hb hby d18_6) hr) (by decide) (by decide) ?_
  show Q_rm_nbf_4 Z  h0 n0 _ T2.heap _
  rw [e2]
  exact ⟨_, _, rfl, N1, Kk2, sz_b2, V_b2⟩

theorem ef_rm_tob_4 (m : MethodId) (x0 : Addr) (x1 : Int32) (x2 : Int32) : entryFrame m #[(.ref x0), (.int x1), (.int x2)] 5 = mkF m 0 #[.val (.ref x0), .val (.int x1), .val (.int x2), .unset, .unset] [] := by first | (simp [entryFrame, mkF, argsToLocals, Value.category]; done) | rfl
def Q_rm_tob_4 (Z : State) (cs : Addr) (kc : ClassId) (u0 : UInt16) (u1 : UInt16) (u2 : UInt16) (u3 : UInt16) (h0 : Heap) (n0 : Nat) (v : Option Value) (h : Heap) (L : List Loc) : Prop := ∃ (b : Addr) (kb : ClassId), v = some (.ref b) ∧ Fr n0 L ∧ Keep h0 h [] ∧ h0.size ≤ b ∧ Arv Z h b kb .byte (8 : Int32) [(.int ((own_lo0 u0).toInt32)), (.int ((own_hi8 u0).toInt32)), (.int ((own_lo0 u1).toInt32)), (.int ((own_hi8 u1).toInt32)), (.int ((own_lo0 u2).toInt32)), (.int ((own_hi8 u2).toInt32)), (.int ((own_lo0 u3).toInt32)), (.int ((own_hi8 u3).toInt32))] (.int (0 : Int32))
set_option maxRecDepth 65536 in
set_option maxHeartbeats 40000000 in
theorem rm_tob_4 (l : Launch) (Z : State) (a0 : Array Value) (hw : ∀ d ∈ tables_1, d.before a0 Z = true) (wz : List Jvm.Cond) (cs : Addr) (kc : ClassId) (u0 : UInt16) (u1 : UInt16) (u2 : UInt16) (u3 : UInt16) (h0 : Heap) (n0 : Nat) (O0 : Old Z n0 h0) (Vc : Arv Z h0 cs kc .char (4 : Int32) [(.int (own_ch u0)), (.int (own_ch u1)), (.int (own_ch u2)), (.int (own_ch u3))] (.int (0 : Int32))) (Sas : Sta Z Z.heap "java/lang/StringUTF16" "$assertionsDisabled" "Z" (.int (1 : Int32))) (Shi : Sta Z Z.heap "java/lang/StringUTF16" "HI_BYTE_SHIFT" "I" (.int (0 : Int32))) (Slo : Sta Z Z.heap "java/lang/StringUTF16" "LO_BYTE_SHIFT" "I" (.int (8 : Int32))) :
    MetFree l y_16 (head1 (Jvm.Cond.code y_16 jdk_52_method_14_code 5 (some (.array .byte)) :: wz) ({ frames := 2, cells := 1, slots := 8, locals := 24 } : Room)) (fun aZ UZ => aZ = #[(.ref cs), (.int (0 : Int32)), (.int (4 : Int32))] ∧ Z.Warmed39 UZ.vm ∧ UZ.heap = h0) (fun _ _ _ _ _ => True) (fun _ UZ oZ UY => ∃ vZ LZ, oZ = .returned vZ ∧ Q_rm_tob_4 Z cs kc u0 u1 u2 u3 h0 n0 vZ UY.heap LZ ∧ FrameEnd UZ oZ UY LZ ({ frames := 2, cells := 1, slots := 8, locals := 24 } : Room).cells ({ frames := 2, cells := 1, slots := 8, locals := 24 } : Room).slots) := by
  refine MetFree.of_bodySF (plainFor_of_name pn_17) hisR ?_
  intro p e s m args below meth c s₁ Bd hml0 hP hK
  obtain ⟨rfl, hZ, hh⟩ := hP
  have hx := Bd.exec
  have hby := Bd.bytes
  have hml : c.maxLocals = 5 := hml0
  have hown : s.vm.findClass "java/lang/StringUTF16" = some m.cls := findClass_of_methodNamed Bd.named
  have hnm := (name_of_methodNamed Bd.named Bd.method).1
  have X0 : Stand p l e ({ frames := 2, cells := 1, slots := 8, locals := 24 } : Room) s m #[(.ref cs), (.int (0 : Int32)), (.int (4 : Int32))] below meth c s₁ [] 0 0 := Stand.of_body Bd
  have e0 : s₁.heap = h0 := by rw [← hh, Bd.state]; rfl
  have N0 := Fr.nil n0
  have Z0 : n0 ≤ h0.size := O0.1 ▸ O0.2.1
  have K0 := Keep.refl h0 []
  show Go p e below (fun oW tW LW => FrameEnd s oW tW LW ({ frames := 2, cells := 1, slots := 8, locals := 24 } : Room).cells ({ frames := 2, cells := 1, slots := 8, locals := 24 } : Room).slots) (Q_rm_tob_4 Z cs kc u0 u1 u2 u3 h0 n0) s₁ (entryFrame m #[(.ref cs), (.int (0 : Int32)), (.int (4 : Int32))] 5)
  refine Go.of (fun t kz => castTop (ef_rm_tob_4 m cs (0 : Int32) (4 : Int32)) kz) ?_
  show Go _ _ _ _ _ s₁ (mkF m 0 #[.val (.ref cs), .val (.int (0 : Int32)), .val (.int (4 : Int32)), .unset, .unset] [])
  refine Go.of (fun _ kz => XS.iloadN X0.here hx rfl (hb hby d17_0) rfl kz) ?_
  show Go _ _ _ _ _ s₁ (mkF m 1 #[.val (.ref cs), .val (.int (0 : Int32)), .val (.int (4 : Int32)), .unset, .unset] [(.int (4 : Int32))])
  refine Go.callS X0 hx hZ hown (y := y_15) (w79 hw) (w80 hw) (w40 hw) (w81 hw) (by decide) (rm_nbf_4 l Z a0 hw [] h0 n0 O0) e0 0 (by decide) (by decide) (by rw [hml]; rfl) (argsL := [(.int (4 : Int32))]) (rest := []) (lenOf pd_8 rfl) rfl rfl (Nat.le_of_eq rfl) (hb hby d17_1) (c2 := 1) (s2 := 8) rfl rfl (by decide) (by decide) fun v1 T1 Lc1 L1 X1 l1 hQ1 => ?_
  obtain ⟨b1, kb1, rfl, N1q, K1, hsz1, V1⟩ := hQ1
  have N1 : Fr n0 L1 := by rw [l1]; exact Fr.app N0 N1q
  have ge_b1 : n0 ≤ b1 := Nat.le_trans (O0.1 ▸ O0.2.1) hsz1
  have sz_b1 : h0.size ≤ b1 := Nat.le_trans (Keep.refl h0 []).1 hsz1
  have ne_cs_b1 : cs ≠ b1 := Nat.ne_of_lt (Nat.lt_of_lt_of_le Vc.lt hsz1)
  have f1_Arv_cs := Vc.keep K1 nin0
  have O1 := O0.keep K1 all0
  have Kk1 := (Keep.refl h0 []).trans K1 all0
  refine Go.of (fun _ kz => XS.astoreN X1.here hx rfl (hb hby d17_4) rfl rfl (l' := #[.val (.ref cs), .val (.int (0 : Int32)), .val (.int (4 : Int32)), .val (.ref b1), .unset]) rfl (XS.iconst X1.here hx rfl (hb hby d17_5) (XS.istore X1.here hx rfl (hb hby d17_6) rfl (l' := #[.val (.ref cs), .val (.int (0 : Int32)), .val (.int (4 : Int32)), .val (.ref b1), .val (.int (0 : Int32))]) rfl (XS.iload X1.here hx rfl (hb hby d17_8) rfl (XS.iloadN X1.here hx rfl (hb hby d17_10) rfl kz))))) ?_
  refine Go.of (fun _ kz => XS.icmpNo X1.here hx rfl (hb hby d17_11) rfl (tlt (by decide : (0 : Int32) < (4 : Int32))).2.1 kz) ?_
  show Go _ _ _ _ _ T1 (mkF m 14 #[.val (.ref cs), .val (.int (0 : Int32)), .val (.int (4 : Int32)), .val (.ref b1), .val (.int (0 : Int32))] [])
  refine Go.of (fun _ kz => XS.aloadN X1.here hx rfl (hb hby d17_14) rfl rfl (XS.iload X1.here hx rfl (hb hby d17_15) rfl (XS.aloadN X1.here hx rfl (hb hby d17_17) rfl rfl (XS.iloadN X1.here hx rfl (hb hby d17_18) rfl kz)))) ?_
  obtain ⟨cl2a, Ar2a, q2a, S2a, N2a, H2a, G2a⟩ := id f1_Arv_cs
  have hin2 := inb_of S2a (j := (0 : Int32)) ⟨by decide, by decide⟩
  refine Go.of (fun _ kz => X1.caload hx (j := (0 : Int32)) (v := (.int (own_ch u0))) Ar2a.1 (State.isArrayOf_alike hZ.alike Ar2a.2.1) Ar2a.2.2 hin2 (H2a.at hin2 rfl) (g := (mkF m 19 #[.val (.ref cs), .val (.int (0 : Int32)), .val (.int (4 : Int32)), .val (.ref b1), .val (.int (0 : Int32))] [(.int (0 : Int32)), (.ref cs), (.int (0 : Int32)), (.ref b1)])) rfl rfl (hb hby d17_19) _ kz) ?_
  show Go _ _ _ _ _ T1 (mkF m 20 #[.val (.ref cs), .val (.int (0 : Int32)), .val (.int (4 : Int32)), .val (.ref b1), .val (.int (0 : Int32))] [(.int (own_ch u0)), (.int (0 : Int32)), (.ref b1)])
  refine Go.callS X1 hx hZ hown (y := y_12) (w86 hw) (w87 hw) (w40 hw) (w88 hw) (by decide) (rm_put l Z a0 hw [] b1 (0 : Int32) (own_ch u0) kb1 (8 : Int32) [(.int (0 : Int32)), (.int (0 : Int32)), (.int (0 : Int32)), (.int (0 : Int32)), (.int (0 : Int32)), (.int (0 : Int32)), (.int (0 : Int32)), (.int (0 : Int32))] (own_lo0 u0) (own_hi8 u0) 0 T1.heap n0 O1 V1 Sas Shi Slo ge_b1 ⟨by decide, by decide⟩ ⟨by decide, by decide⟩ (by decide) (by decide) (Nat.le_of_ble_eq_true rfl) (Nat.le_of_ble_eq_true rfl) rfl rfl) rfl 0 (by decide) (by decide) (by rw [hml]; rfl) (argsL := [(.ref b1), (.int (0 : Int32)), (.int (own_ch u0))]) (rest := []) (lenOf pd_9 rfl) rfl rfl (Nat.le_of_eq rfl) (hb hby d17_20) (c2 := 1) (s2 := 8) rfl rfl (by decide) (by decide) fun v3 T3 Lc3 L3 X3 l3 hQ3 => ?_
  obtain ⟨rfl, N3q, K3, V3⟩ := hQ3
  have N3 : Fr n0 L3 := by rw [l3]; exact Fr.app N1 N3q
  have f3_Arv_cs := f1_Arv_cs.keep K3 (ninS ne_cs_b1 nin0)
  have O3 := O1.keep K3 (allS ge_b1 all0)
  have Kk3 := Kk1.trans K3 (allS (Or.inr sz_b1) all0)
  have V3c : Arv Z T3.heap b1 kb1 .byte (8 : Int32) [(.int ((own_lo0 u0).toInt32)), (.int ((own_hi8 u0).toInt32)), (.int (0 : Int32)), (.int (0 : Int32)), (.int (0 : Int32)), (.int (0 : Int32)), (.int (0 : Int32)), (.int (0 : Int32))] (.int (0 : Int32)) := V3
  refine Go.of (fun _ kz => XS.iinc X3.here hx rfl (hb hby d17_23) rfl (l' := #[.val (.ref cs), .val (.int (1 : Int32)), .val (.int (4 : Int32)), .val (.ref b1), .val (.int (0 : Int32))]) rfl (XS.iinc X3.here hx rfl (hb hby d17_26) rfl (l' := #[.val (.ref cs), .val (.int (1 : Int32)), .val (.int (4 : Int32)), .val (.ref b1), .val (.int (1 : Int32))]) rfl (XS.goto X3.here hx rfl (pc0 := 29) (pc' := 8) rfl (hb hby d17_29) (by decide) (by decide) (XS.iload X3.here hx rfl (hb hby d17_8) rfl (XS.iloadN X3.here hx rfl (hb hby d17_10) rfl kz))))) ?_
  refine Go.of (fun _ kz => XS.icmpNo X3.here hx rfl (hb hby d17_11) rfl (tlt (by decide : (1 : Int32) < (4 : Int32))).2.1 kz) ?_
  show Go _ _ _ _ _ T3 (mkF m 14 #[.val (.ref cs), .val (.int (1 : Int32)), .val (.int (4 : Int32)), .val (.ref b1), .val (.int (1 : Int32))] [])
  refine Go.of (fun _ kz => XS.aloadN X3.here hx rfl (hb hby d17_14) rfl rfl (XS.iload X3.here hx rfl (hb hby d17_15) rfl (XS.aloadN X3.here hx rfl (hb hby d17_17) rfl rfl (XS.iloadN X3.here hx rfl (hb hby d17_18) rfl kz)))) ?_
  obtain ⟨cl4a, Ar4a, q4a, S4a, N4a, H4a, G4a⟩ := id f3_Arv_cs
  have hin4 := inb_of S4a (j := (1 : Int32)) ⟨by decide, by decide⟩
  refine Go.of (fun _ kz => X3.caload hx (j := (1 : Int32)) (v := (.int (own_ch u1))) Ar4a.1 (State.isArrayOf_alike hZ.alike Ar4a.2.1) Ar4a.2.2 hin4 (H4a.at hin4 rfl) (g := (mkF m 19 #[.val (.ref cs), .val (.int (1 : Int32)), .val (.int (4 : Int32)), .val (.ref b1), .val (.int (1 : Int32))] [(.int (1 : Int32)), (.ref cs), (.int (1 : Int32)), (.ref b1)])) rfl rfl (hb hby d17_19) _ kz) ?_
  show Go _ _ _ _ _ T3 (mkF m 20 #[.val (.ref cs), .val (.int (1 : Int32)), .val (.int (4 : Int32)), .val (.ref b1), .val (.int (1 : Int32))] [(.int (own_ch u1)), (.int (1 : Int32)), (.ref b1)])
  refine Go.callS X3 hx hZ hown (y := y_12) (w86 hw) (w87 hw) (w40 hw) (w88 hw) (by decide) (rm_put l Z a0 hw [] b1 (1 : Int32) (own_ch u1) kb1 (8 : Int32) [(.int ((own_lo0 u0).toInt32)), (.int ((own_hi8 u0).toInt32)), (.int (0 : Int32)), (.int (0 : Int32)), (.int (0 : Int32)), (.int (0 : Int32)), (.int (0 : Int32)), (.int (0 : Int32))] (own_lo0 u1) (own_hi8 u1) 2 T3.heap n0 O3 V3c Sas Shi Slo ge_b1 ⟨by decide, by decide⟩ ⟨by decide, by decide⟩ (by decide) (by decide) (Nat.le_of_ble_eq_true rfl) (Nat.le_of_ble_eq_true rfl) rfl rfl) rfl 0 (by decide) (by decide) (by rw [hml]; rfl) (argsL := [(.ref b1), (.int (1 : Int32)), (.int (own_ch u1))]) (rest := []) (lenOf pd_9 rfl) rfl rfl (Nat.le_of_eq rfl) (hb hby d17_20) (c2 := 1) (s2 := 8) rfl rfl (by decide) (by decide) fun v5 T5 Lc5 L5 X5 l5 hQ5 => ?_
  obtain ⟨rfl, N5q, K5, V5⟩ := hQ5
  have N5 : Fr n0 L5 := by rw [l5]; exact Fr.app N3 N5q
  have f5_Arv_cs := f3_Arv_cs.keep K5 (ninS ne_cs_b1 nin0)
  have O5 := O3.keep K5 (allS ge_b1 all0)
  have Kk5 := Kk3.trans K5 (allS (Or.inr sz_b1) all0)
  have V5c : Arv Z T5.heap b1 kb1 .byte (8 : Int32) [(.int ((own_lo0 u0).toInt32)), (.int ((own_hi8 u0).toInt32)), (.int ((own_lo0 u1).toInt32)), (.int ((own_hi8 u1).toInt32)), (.int (0 : Int32)), (.int (0 : Int32)), (.int (0 : Int32)), (.int (0 : Int32))] (.int (0 : Int32)) := V5
  refine Go.of (fun _ kz => XS.iinc X5.here hx rfl (hb hby d17_23) rfl (l' := #[.val (.ref cs), .val (.int (2 : Int32)), .val (.int (4 : Int32)), .val (.ref b1), .val (.int (1 : Int32))]) rfl (XS.iinc X5.here hx rfl (hb hby d17_26) rfl (l' := #[.val (.ref cs), .val (.int (2 : Int32)), .val (.int (4 : Int32)), .val (.ref b1), .val (.int (2 : Int32))]) rfl (XS.goto X5.here hx rfl (pc0 := 29) (pc' := 8) rfl (hb hby d17_29) (by decide) (by decide) (XS.iload X5.here hx rfl (hb hby d17_8) rfl (XS.iloadN X5.here hx rfl (hb hby d17_10) rfl kz))))) ?_
  refine Go.of (fun _ kz => XS.icmpNo X5.here hx rfl (hb hby d17_11) rfl (tlt (by decide : (2 : Int32) < (4 : Int32))).2.1 kz) ?_
  show Go _ _ _ _ _ T5 (mkF m 14 #[.val (.ref cs), .val (.int (2 : Int32)), .val (.int (4 : Int32)), .val (.ref b1), .val (.int (2 : Int32))] [])
  refine Go.of (fun _ kz => XS.aloadN X5.here hx rfl (hb hby d17_14) rfl rfl (XS.iload X5.here hx rfl (hb hby d17_15) rfl (XS.aloadN X5.here hx rfl (hb hby d17_17) rfl rfl (XS.iloadN X5.here hx rfl (hb hby d17_18) rfl kz)))) ?_
  obtain ⟨cl6a, Ar6a, q6a, S6a, N6a, H6a, G6a⟩ := id f5_Arv_cs
  have hin6 := inb_of S6a (j := (2 : Int32)) ⟨by decide, by decide⟩
  refine Go.of (fun _ kz => X5.caload hx (j := (2 : Int32)) (v := (.int (own_ch u2))) Ar6a.1 (State.isArrayOf_alike hZ.alike Ar6a.2.1) Ar6a.2.2 hin6 (H6a.at hin6 rfl) (g := (mkF m 19 #[.val (.ref cs), .val (.int (2 : Int32)), .val (.int (4 : Int32)), .val (.ref b1), .val (.int (2 : Int32))] [(.int (2 : Int32)), (.ref cs), (.int (2 : Int32)), (.ref b1)])) rfl rfl (hb hby d17_19) _ kz) ?_
  show Go _ _ _ _ _ T5 (mkF m 20 #[.val (.ref cs), .val (.int (2 : Int32)), .val (.int (4 : Int32)), .val (.ref b1), .val (.int (2 : Int32))] [(.int (own_ch u2)), (.int (2 : Int32)), (.ref b1)])
  refine Go.callS X5 hx hZ hown (y := y_12) (w86 hw) (w87 hw) (w40 hw) (w88 hw) (by decide) (rm_put l Z a0 hw [] b1 (2 : Int32) (own_ch u2) kb1 (8 : Int32) [(.int ((own_lo0 u0).toInt32)), (.int ((own_hi8 u0).toInt32)), (.int ((own_lo0 u1).toInt32)), (.int ((own_hi8 u1).toInt32)), (.int (0 : Int32)), (.int (0 : Int32)), (.int (0 : Int32)), (.int (0 : Int32))] (own_lo0 u2) (own_hi8 u2) 4 T5.heap n0 O5 V5c Sas Shi Slo ge_b1 ⟨by decide, by decide⟩ ⟨by decide, by decide⟩ (by decide) (by decide) (Nat.le_of_ble_eq_true rfl) (Nat.le_of_ble_eq_true rfl) rfl rfl) rfl 0 (by decide) (by decide) (by rw [hml]; rfl) (argsL := [(.ref b1), (.int (2 : Int32)), (.int (own_ch u2))]) (rest := []) (lenOf pd_9 rfl) rfl rfl (Nat.le_of_eq rfl) (hb hby d17_20) (c2 := 1) (s2 := 8) rfl rfl (by decide) (by decide) fun v7 T7 Lc7 L7 X7 l7 hQ7 => ?_
  obtain ⟨rfl, N7q, K7, V7⟩ := hQ7
  have N7 : Fr n0 L7 := by rw [l7]; exact Fr.app N5 N7q
  have f7_Arv_cs := f5_Arv_cs.keep K7 (ninS ne_cs_b1 nin0)
  have O7 := O5.keep K7 (allS ge_b1 all0)
  have Kk7 := Kk5.trans K7 (allS (Or.inr sz_b1) all0)
  have V7c : Arv Z T7.heap b1 kb1 .byte (8 : Int32) [(.int ((own_lo0 u0).toInt32)), (.int ((own_hi8 u0).toInt32)), (.int ((own_lo0 u1).toInt32)), (.int ((own_hi8 u1).toInt32)), (.int ((own_lo0 u2).toInt32)), (.int ((own_hi8 u2).toInt32)), (.int (0 : Int32)), (.int (0 : Int32))] (.int (0 : Int32)) := V7
  refine Go.of (fun _ kz => XS.iinc X7.here hx rfl (hb hby d17_23) rfl (l' := #[.val (.ref cs), .val (.int (3 : Int32)), .val (.int (4 : Int32)), .val (.ref b1), .val (.int (2 : Int32))]) rfl (XS.iinc X7.here hx rfl (hb hby d17_26) rfl (l' := #[.val (.ref cs), .val (.int (3 : Int32)), .val (.int (4 : Int32)), .val (.ref b1), .val (.int (3 : Int32))]) rfl (XS.goto X7.here hx rfl (pc0 := 29) (pc' := 8) rfl (hb hby d17_29) (by decide) (by decide) (XS.iload X7.here hx rfl (hb hby d17_8) rfl (XS.iloadN X7.here hx rfl (hb hby d17_10) rfl kz))))) ?_
  refine Go.of (fun _ kz => XS.icmpNo X7.here hx rfl (hb hby d17_11) rfl (tlt (by decide : (3 : Int32) < (4 : Int32))).2.1 kz) ?_
  show Go _ _ _ _ _ T7 (mkF m 14 #[.val (.ref cs), .val (.int (3 : Int32)), .val (.int (4 : Int32)), .val (.ref b1), .val (.int (3 : Int32))] [])
  refine Go.of (fun _ kz => XS.aloadN X7.here hx rfl (hb hby d17_14) rfl rfl (XS.iload X7.here hx rfl (hb hby d17_15) rfl (XS.aloadN X7.here hx rfl (hb hby d17_17) rfl rfl (XS.iloadN X7.here hx rfl (hb hby d17_18) rfl kz)))) ?_
  obtain ⟨cl8a, Ar8a, q8a, S8a, N8a, H8a, G8a⟩ := id f7_Arv_cs
  have hin8 := inb_of S8a (j := (3 : Int32)) ⟨by decide, by decide⟩
  refine Go.of (fun _ kz => X7.caload hx (j := (3 : Int32)) (v := (.int (own_ch u3))) Ar8a.1 (State.isArrayOf_alike hZ.alike Ar8a.2.1) Ar8a.2.2 hin8 (H8a.at hin8 rfl) (g := (mkF m 19 #[.val (.ref cs), .val (.int (3 : Int32)), .val (.int (4 : Int32)), .val (.ref b1), .val (.int (3 : Int32))] [(.int (3 : Int32)), (.ref cs), (.int (3 : Int32)), (.ref b1)])) rfl rfl (hb hby d17_19) _ kz) ?_
  show Go _ _ _ _ _ T7 (mkF m 20 #[.val (.ref cs), .val (.int (3 : Int32)), .val (.int (4 : Int32)), .val (.ref b1), .val (.int (3 : Int32))] [(.int (own_ch u3)), (.int (3 : Int32)), (.ref b1)])
  refine Go.callS X7 hx hZ hown (y := y_12) (w86 hw) (w87 hw) (w40 hw) (w88 hw) (by decide) (rm_put l Z a0 hw [] b1 (3 : Int32) (own_ch u3) kb1 (8 : Int32) [(.int ((own_lo0 u0).toInt32)), (.int ((own_hi8 u0).toInt32)), (.int ((own_lo0 u1).toInt32)), (.int ((own_hi8 u1).toInt32)), (.int ((own_lo0 u2).toInt32)), (.int ((own_hi8 u2).toInt32)), (.int (0 : Int32)), (.int (0 : Int32))] (own_lo0 u3) (own_hi8 u3) 6 T7.heap n0 O7 V7c Sas Shi Slo ge_b1 ⟨by decide, by decide⟩ ⟨by decide, by decide⟩ (by decide) (by decide) (Nat.le_of_ble_eq_true rfl) (Nat.le_of_ble_eq_true rfl) rfl rfl) rfl 0 (by decide) (by decide) (by rw [hml]; rfl) (argsL := [(.ref b1), (.int (3 : Int32)), (.int (own_ch u3))]) (rest := []) (lenOf pd_9 rfl) rfl rfl (Nat.le_of_eq rfl) (hb hby d17_20) (c2 := 1) (s2 := 8) rfl rfl (by decide) (by decide) fun v9 T9 Lc9 L9 X9 l9 hQ9 => ?_
  obtain ⟨rfl, N9q, K9, V9⟩ := hQ9
  have N9 : Fr n0 L9 := by rw [l9]; exact Fr.app N7 N9q
  have f9_Arv_cs := f7_Arv_cs.keep K9 (ninS ne_cs_b1 nin0)
  have O9 := O7.keep K9 (allS ge_b1 all0)
  have Kk9 := Kk7.trans K9 (allS (Or.inr sz_b1) all0)
  have V9c : Arv Z T9.heap b1 kb1 .byte (8 : Int32) [(.int ((own_lo0 u0).toInt32)), (.int ((own_hi8 u0).toInt32)), (.int ((own_lo0 u1).toInt32)), (.int ((own_hi8 u1).toInt32)), (.int ((own_lo0 u2).toInt32)), (.int ((own_hi8 u2).toInt32)), (.int ((own_lo0 u3).toInt32)), (.int ((own_hi8 u3).toInt32))] (.int (0 : Int32)) := V9
  refine Go.of (fun _ kz => XS.iinc X9.here hx rfl (hb hby d17_23) rfl (l' := #[.val (.ref cs), .val (.int (4 : Int32)), .val (.int (4 : Int32)), .val (.ref b1), .val (.int (3 : Int32))]) rfl (XS.iinc X9.here hx rfl (hb hby d17_26) rfl (l' := #[.val (.ref cs), .val (.int (4 : Int32)), .val (.int (4 : Int32)), .val (.ref b1), .val (.int (4 : Int32))]) rfl (XS.goto X9.here hx rfl (pc0 := 29) (pc' := 8) rfl (hb hby d17_29) (by decide) (by decide) (XS.iload X9.here hx rfl (hb hby d17_8) rfl (XS.iloadN X9.here hx rfl (hb hby d17_10) rfl kz))))) ?_
  refine Go.of (fun _ kz => XS.icmpYes X9.here hx rfl (pc0 := 11) (pc' := 32) rfl (hb hby d17_11) rfl (flt (by decide : ¬ (4 : Int32) < (4 : Int32))).2.1 (by decide) (by decide) kz) ?_
  show Go _ _ _ _ _ T9 (mkF m 32 #[.val (.ref cs), .val (.int (4 : Int32)), .val (.int (4 : Int32)), .val (.ref b1), .val (.int (4 : Int32))] [])
  refine Go.of (fun _ kz => XS.aloadN X9.here hx rfl (hb hby d17_32) rfl rfl kz) ?_
  refine Go.ret X9 (v := some (.ref b1)) (fun h => by rw [Bd.returns] at h; cases h) Bd.notSynchronized (fun fs hr => retOut X9 hx Bd.returns rfl (Or.inr (Or.inr (Or.inr (Or.inr ⟨rfl, rfl, rfl⟩)))) (hb hby d17_33) hr) (by decide) (by decide) ?_
  show Q_rm_tob_4 Z _ _ _ _ _ _ h0 n0 _ T9.heap _
  exact ⟨_, _, rfl, N9, Kk9, sz_b1, V9c⟩

theorem ef_rm_co_4 (m : MethodId) (x0 : Addr) (x1 : Int32) (x2 : Int32) : entryFrame m #[(.ref x0), (.int x1), (.int x2)] 6 = mkF m 0 #[.val (.ref x0), .val (.int x1), .val (.int x2), .unset, .unset, .unset] [] := by first | (simp [entryFrame, mkF, argsToLocals, Value.category]; done) | rfl
def Q_rm_co_4 (Z : State) (cs : Addr) (kc : ClassId) (u0 : UInt16) (u1 : UInt16) (u2 : UInt16) (u3 : UInt16) (h0 : Heap) (n0 : Nat) (v : Option Value) (h : Heap) (L : List Loc) : Prop := ∃ (b : Addr) (kb : ClassId) (z : Int32) (vs : List Value), v = some (.ref b) ∧ Fr n0 L ∧ Keep h0 h [] ∧ h0.size ≤ b ∧ Arv Z h b kb .byte z vs (.int (0 : Int32)) ∧ ((z = (4 : Int32) ∧ vs = [(.int ((own_lo u0).toInt32)), (.int ((own_lo u1).toInt32)), (.int ((own_lo u2).toInt32)), (.int ((own_lo u3).toInt32))] ∧ (¬ (255 : Int32) < (own_ch u0) ∧ ¬ (255 : Int32) < (own_ch u1) ∧ ¬ (255 : Int32) < (own_ch u2) ∧ ¬ (255 : Int32) < (own_ch u3))) ∨ (z = (8 : Int32) ∧ vs = [(.int ((own_lo0 u0).toInt32)), (.int ((own_hi8 u0).toInt32)), (.int ((own_lo0 u1).toInt32)), (.int ((own_hi8 u1).toInt32)), (.int ((own_lo0 u2).toInt32)), (.int ((own_hi8 u2).toInt32)), (.int ((own_lo0 u3).toInt32)), (.int ((own_hi8 u3).toInt32))]))
set_option maxRecDepth 65536 in
set_option maxHeartbeats 40000000 in
theorem rm_co_4 (l : Launch) (Z : State) (a0 : Array Value) (hw : ∀ d ∈ tables_1, d.before a0 Z = true) (wz : List Jvm.Cond) (cs : Addr) (kc : ClassId) (u0 : UInt16) (u1 : UInt16) (u2 : UInt16) (u3 : UInt16) (h0 : Heap) (n0 : Nat) (O0 : Old Z n0 h0) (Vc : Arv Z h0 cs kc .char (4 : Int32) [(.int (own_ch u0)), (.int (own_ch u1)), (.int (own_ch u2)), (.int (own_ch u3))] (.int (0 : Int32))) (Sas : Sta Z Z.heap "java/lang/StringUTF16" "$assertionsDisabled" "Z" (.int (1 : Int32))) (Shi : Sta Z Z.heap "java/lang/StringUTF16" "HI_BYTE_SHIFT" "I" (.int (0 : Int32))) (Slo : Sta Z Z.heap "java/lang/StringUTF16" "LO_BYTE_SHIFT" "I" (.int (8 : Int32))) :
    MetFree l y_17 (head1 (Jvm.Cond.code y_17 jdk_52_method_16_code 6 (some (.array .byte)) :: wz) ({ frames := 3, cells := 2, slots := 12, locals := 40 } : Room)) (fun aZ UZ => aZ = #[(.ref cs), (.int (0 : Int32)), (.int (4 : Int32))] ∧ Z.Warmed39 UZ.vm ∧ UZ.heap = h0) (fun _ _ _ _ _ => True) (fun _ UZ oZ UY => ∃ vZ LZ, oZ = .returned vZ ∧ Q_rm_co_4 Z cs kc u0 u1 u2 u3 h0 n0 vZ UY.heap LZ ∧ FrameEnd UZ oZ UY LZ ({ frames := 3, cells := 2, slots := 12, locals := 40 } : Room).cells ({ frames := 3, cells := 2, slots := 12, locals := 40 } : Room).slots) := by
  refine MetFree.of_bodySF (plainFor_of_name pn_7) hisR ?_
  intro p e s m args below meth c s₁ Bd hml0 hP hK
  obtain ⟨rfl, hZ, hh⟩ := hP
  have hx := Bd.exec
  have hby := Bd.bytes
  have hml : c.maxLocals = 6 := hml0
  have hown : s.vm.findClass "java/lang/StringUTF16" = some m.cls := findClass_of_methodNamed Bd.named
  have hnm := (name_of_methodNamed Bd.named Bd.method).1
  have X0 : Stand p l e ({ frames := 3, cells := 2, slots := 12, locals := 40 } : Room) s m #[(.ref cs), (.int (0 : Int32)), (.int (4 : Int32))] below meth c s₁ [] 0 0 := Stand.of_body Bd
  have e0 : s₁.heap = h0 := by rw [← hh, Bd.state]; rfl
  have N0 := Fr.nil n0
  have Z0 : n0 ≤ h0.size := O0.1 ▸ O0.2.1
  have K0 := Keep.refl h0 []
  show Go p e below (fun oW tW LW => FrameEnd s oW tW LW ({ frames := 3, cells := 2, slots := 12, locals := 40 } : Room).cells ({ frames := 3, cells := 2, slots := 12, locals := 40 } : Room).slots) (Q_rm_co_4 Z cs kc u0 u1 u2 u3 h0 n0) s₁ (entryFrame m #[(.ref cs), (.int (0 : Int32)), (.int (4 : Int32))] 6)
  refine Go.of (fun t kz => castTop (ef_rm_co_4 m cs (0 : Int32) (4 : Int32)) kz) ?_
  show Go _ _ _ _ _ s₁ (mkF m 0 #[.val (.ref cs), .val (.int (0 : Int32)), .val (.int (4 : Int32)), .unset, .unset, .unset] [])
  refine Go.of (fun _ kz => XS.iloadN X0.here hx rfl (hb hby d7_0) rfl kz) ?_
  obtain ⟨T1, h1, k1, X1, e1, E1, A1, st1⟩ := newP (aty := .byte) X0 hx hZ (w21 hw) e0 (g := (mkF m 1 #[.val (.ref cs), .val (.int (0 : Int32)), .val (.int (4 : Int32)), .unset, .unset, .unset] [(.int (4 : Int32))])) rfl (hb hby d7_1) rfl (by decide) (cap := 4) (by decide) (by decide) (by decide) (by decide)
  obtain ⟨b1, g1⟩ : ∃ z, z = h0.size := ⟨_, rfl⟩
  rw [← g1] at A1 st1
  have ne_cs_b1 : cs ≠ b1 := Nat.ne_of_lt (Nat.lt_of_lt_of_le Vc.lt (Nat.le_of_eq g1.symm))
  have ge_b1 : n0 ≤ b1 := Nat.le_trans (O0.1 ▸ O0.2.1) (Nat.le_of_eq g1.symm)
  have hsz_b1 := Nat.le_of_eq g1.symm
  have sz_b1 : h0.size ≤ b1 := Nat.le_trans (Keep.refl h0 []).1 (Nat.le_of_eq g1.symm)
  have f1_Arv_cs := Vc.ext E1
  have O1 := O0.ext E1
  have Kk1 := (Keep.refl h0 []).ext E1
  have V_b1 : Arv Z h1 b1 k1 .byte (4 : Int32) [(.int (0 : Int32)), (.int (0 : Int32)), (.int (0 : Int32)), (.int (0 : Int32))] (.int (0 : Int32)) := (Arv.new A1 (by decide)).pad (pad_rep [] (.int (0 : Int32)) 4)
  refine Go.of (fun _ kz => st1 _ kz) ?_
  refine Go.of (fun _ kz => XS.astoreN X1.here hx rfl (hb hby d7_3) rfl rfl (l' := #[.val (.ref cs), .val (.int (0 : Int32)), .val (.int (4 : Int32)), .val (.ref b1), .unset, .unset]) rfl (XS.aloadN X1.here hx rfl (hb hby d7_4) rfl rfl (XS.iloadN X1.here hx rfl (hb hby d7_5) rfl (XS.aloadN X1.here hx rfl (hb hby d7_6) rfl rfl (XS.iconst X1.here hx rfl (hb hby d7_7) (XS.iloadN X1.here hx rfl (hb hby d7_8) rfl kz)))))) ?_
  show Go _ _ _ _ _ T1 (mkF m 9 #[.val (.ref cs), .val (.int (0 : Int32)), .val (.int (4 : Int32)), .val (.ref b1), .unset, .unset] [(.int (4 : Int32)), (.int (0 : Int32)), (.ref b1), (.int (0 : Int32)), (.ref cs)])
  refine Go.callS X1 hx hZ hown (y := y_13) (w42 hw) (w43 hw) (w40 hw) (w44 hw) (by decide) (rm_ci_4 l Z a0 hw [] cs b1 kc k1 u0 u1 u2 u3 h1 n0 O1 f1_Arv_cs V_b1 ne_cs_b1 ge_b1) e1 0 (by decide) (by decide) (by rw [hml]; rfl) (argsL := [(.ref cs), (.int (0 : Int32)), (.ref b1), (.int (0 : Int32)), (.int (4 : Int32))]) (rest := []) (lenOf pd_10 rfl) rfl rfl (Nat.le_of_eq rfl) (hb hby d7_9) (c2 := 1) (s2 := 4) rfl rfl (by decide) (by decide) fun v2 T2 Lc2 L2 X2 l2 hQ2 => ?_
  obtain ⟨k2, rfl, N2q, K2, hD2⟩ := hQ2
  have N2 : Fr n0 L2 := by rw [l2]; exact Fr.app N0 N2q
  have f2_Arv_cs := f1_Arv_cs.keep K2 (ninS ne_cs_b1 nin0)
  have O2 := O1.keep K2 (allS ge_b1 all0)
  have Kk2 := Kk1.trans K2 (allS (Or.inr sz_b1) all0)
  show Go _ _ _ _ _ T2 (mkF m 12 #[.val (.ref cs), .val (.int (0 : Int32)), .val (.int (4 : Int32)), .val (.ref b1), .unset, .unset] [(.int k2)])
  rcases hD2 with ⟨rfl, hlat2, V2b⟩ | hf2
  · show Go _ _ _ _ _ T2 (mkF m 12 #[.val (.ref cs), .val (.int (0 : Int32)), .val (.int (4 : Int32)), .val (.ref b1), .unset, .unset] [(.int (4 : Int32))])
    refine Go.of (fun _ kz => XS.istore X2.here hx rfl (hb hby d7_12) rfl (l' := #[.val (.ref cs), .val (.int (0 : Int32)), .val (.int (4 : Int32)), .val (.ref b1), .val (.int (4 : Int32)), .unset]) rfl (XS.iload X2.here hx rfl (hb hby d7_14) rfl (XS.iloadN X2.here hx rfl (hb hby d7_16) rfl kz))) ?_
    refine Go.of (fun _ kz => XS.icmpYes X2.here hx rfl (pc0 := 17) (pc' := 57) rfl (hb hby d7_17) rfl (teq (by decide : (4 : Int32) = (4 : Int32))).1 (by decide) (by decide) kz) ?_
    refine Go.of (fun _ kz => XS.aloadN X2.here hx rfl (hb hby d7_57) rfl rfl kz) ?_
    refine Go.ret X2 (v := some (.ref b1)) (fun h => by rw [Bd.returns] at h; cases h) Bd.notSynchronized (fun fs hr => retOut X2 hx Bd.returns rfl (Or.inr (Or.inr (Or.inr (Or.inr ⟨rfl, rfl, rfl⟩)))) (hb hby d7_58) hr) (by decide) (by decide) ?_
    show Q_rm_co_4 Z _ _ _ _ _ _ h0 n0 _ T2.heap _
    exact ⟨_, _, _, _, rfl, N2, Kk2, sz_b1, V2b, Or.inl ⟨rfl, rfl, hlat2⟩⟩
  · show Go _ _ _ _ _ T2 (mkF m 12 #[.val (.ref cs), .val (.int (0 : Int32)), .val (.int (4 : Int32)), .val (.ref b1), .unset, .unset] [(.int k2)])
    refine Go.of (fun _ kz => XS.istore X2.here hx rfl (hb hby d7_12) rfl (l' := #[.val (.ref cs), .val (.int (0 : Int32)), .val (.int (4 : Int32)), .val (.ref b1), .val (.int k2), .unset]) rfl (XS.iload X2.here hx rfl (hb hby d7_14) rfl (XS.iloadN X2.here hx rfl (hb hby d7_16) rfl kz))) ?_
    refine Go.of (fun _ kz => XS.icmpNo X2.here hx rfl (hb hby d7_17) rfl (feq (by rcases hf2 with ⟨rfl, _⟩ | ⟨rfl, _⟩ | ⟨rfl, _⟩ | ⟨rfl, _⟩ <;> decide)).1 kz) ?_
    refine Go.of (fun _ kz => XS.aloadN X2.here hx rfl (hb hby d7_20) rfl rfl (XS.iloadN X2.here hx rfl (hb hby d7_21) rfl (XS.iloadN X2.here hx rfl (hb hby d7_22) rfl kz))) ?_
    show Go _ _ _ _ _ T2 (mkF m 23 #[.val (.ref cs), .val (.int (0 : Int32)), .val (.int (4 : Int32)), .val (.ref b1), .val (.int k2), .unset] [(.int (4 : Int32)), (.int (0 : Int32)), (.ref cs)])
    refine Go.callS X2 hx hZ hown (y := y_16) (w76 hw) (w77 hw) (w40 hw) (w78 hw) (by decide) (rm_tob_4 l Z a0 hw [] cs kc u0 u1 u2 u3 T2.heap n0 O2 f2_Arv_cs Sas Shi Slo) rfl 0 (by decide) (by decide) (by rw [hml]; rfl) (argsL := [(.ref cs), (.int (0 : Int32)), (.int (4 : Int32))]) (rest := []) (lenOf pd_11 rfl) rfl rfl (Nat.le_of_eq rfl) (hb hby d7_23) (c2 := 2) (s2 := 12) rfl rfl (by decide) (by decide) fun v3 T3 Lc3 L3 X3 l3 hQ3 => ?_
    obtain ⟨b3, kb3, rfl, N3q, K3, hsz3, V3⟩ := hQ3
    have N3 : Fr n0 L3 := by rw [l3]; exact Fr.app N2 N3q
    have ge_b3 : n0 ≤ b3 := Nat.le_trans (O2.1 ▸ O2.2.1) hsz3
    have sz_b3 : h0.size ≤ b3 := Nat.le_trans Kk2.1 hsz3
    have f3_Arv_cs := f2_Arv_cs.keep K3 nin0
    have O3 := O2.keep K3 all0
    have Kk3 := Kk2.trans K3 all0
    refine Go.of (fun _ kz => XS.astore X3.here hx rfl (hb hby d7_26) rfl rfl (l' := #[.val (.ref cs), .val (.int (0 : Int32)), .val (.int (4 : Int32)), .val (.ref b1), .val (.int k2), .val (.ref b3)]) rfl (XS.aload X3.here hx rfl (hb hby d7_28) rfl rfl (XS.iload X3.here hx rfl (hb hby d7_30) rfl kz))) ?_
    show Go _ _ _ _ _ T3 (mkF m 32 #[.val (.ref cs), .val (.int (0 : Int32)), .val (.int (4 : Int32)), .val (.ref b1), .val (.int k2), .val (.ref b3)] [(.int k2), (.ref b3)])
    obtain ⟨x0, x1, r, hj, hj1, hv0, hv1, hr, hbg⟩ : ∃ x0 x1 r : Int32, (¬ (k2 <<< ((1 : Int32) &&& 31)) < (0 : Int32) ∧ (k2 <<< ((1 : Int32) &&& 31)) < (8 : Int32)) ∧ (¬ ((k2 <<< ((1 : Int32) &&& 31)) + (1 : Int32)) < (0 : Int32) ∧ ((k2 <<< ((1 : Int32) &&& 31)) + (1 : Int32)) < (8 : Int32)) ∧ ([(.int ((own_lo0 u0).toInt32)), (.int ((own_hi8 u0).toInt32)), (.int ((own_lo0 u1).toInt32)), (.int ((own_hi8 u1).toInt32)), (.int ((own_lo0 u2).toInt32)), (.int ((own_hi8 u2).toInt32)), (.int ((own_lo0 u3).toInt32)), (.int ((own_hi8 u3).toInt32))] : List Value).getD ((k2 <<< ((1 : Int32) &&& 31))).toNatClampNeg (.int (0 : Int32)) = .int x0 ∧ ([(.int ((own_lo0 u0).toInt32)), (.int ((own_hi8 u0).toInt32)), (.int ((own_lo0 u1).toInt32)), (.int ((own_hi8 u1).toInt32)), (.int ((own_lo0 u2).toInt32)), (.int ((own_hi8 u2).toInt32)), (.int ((own_lo0 u3).toInt32)), (.int ((own_hi8 u3).toInt32))] : List Value).getD (((k2 <<< ((1 : Int32) &&& 31)) + (1 : Int32))).toNatClampNeg (.int (0 : Int32)) = .int x1 ∧ nar .char ((((x0 &&& (255 : Int32)) <<< ((0 : Int32) &&& 31)) ||| ((x1 &&& (255 : Int32)) <<< ((8 : Int32) &&& 31))).toUInt32.toUInt16.toUInt32.toInt32) = r ∧ (255 : Int32) < r := by
      rcases hf2 with ⟨rfl, hg⟩ | ⟨rfl, -, hg⟩ | ⟨rfl, -, -, hg⟩ | ⟨rfl, -, -, -, hg⟩
      · exact ⟨_, _, _, ⟨by decide, by decide⟩, ⟨by decide, by decide⟩, rfl, rfl, own_get u0, hg⟩
      · exact ⟨_, _, _, ⟨by decide, by decide⟩, ⟨by decide, by decide⟩, rfl, rfl, own_get u1, hg⟩
      · exact ⟨_, _, _, ⟨by decide, by decide⟩, ⟨by decide, by decide⟩, rfl, rfl, own_get u2, hg⟩
      · exact ⟨_, _, _, ⟨by decide, by decide⟩, ⟨by decide, by decide⟩, rfl, rfl, own_get u3, hg⟩
    refine Go.callS X3 hx hZ hown (y := y_7) (w92 hw) (w93 hw) (w40 hw) (w94 hw) (by decide) (rm_get l Z a0 hw [] b3 k2 kb3 (8 : Int32) [(.int ((own_lo0 u0).toInt32)), (.int ((own_hi8 u0).toInt32)), (.int ((own_lo0 u1).toInt32)), (.int ((own_hi8 u1).toInt32)), (.int ((own_lo0 u2).toInt32)), (.int ((own_hi8 u2).toInt32)), (.int ((own_lo0 u3).toInt32)), (.int ((own_hi8 u3).toInt32))] x0 x1 r T3.heap n0 O3 V3 Sas Shi Slo hj hj1 hv0 hv1 hr) rfl 0 (by decide) (by decide) (by rw [hml]; rfl) (argsL := [(.ref b3), (.int k2)]) (rest := []) (lenOf pd_5 rfl) rfl rfl (Nat.le_of_eq rfl) (hb hby d7_32) (c2 := 2) (s2 := 12) rfl rfl (by decide) (by decide) fun v4 T4 Lc4 L4 X4 l4 hQ4 => ?_
    obtain ⟨rfl, N4q, e4⟩ := hQ4
    have N4 : Fr n0 L4 := by rw [l4]; exact Fr.app N3 N4q
    refine Go.of (fun _ kz => XS.sipush X4.here hx rfl (hb hby d7_35) kz) ?_
    refine Go.of (fun _ kz => XS.icmpYes X4.here hx rfl (pc0 := 38) (pc' := 54) rfl (hb hby d7_38) rfl (tlt hbg).2.2.1 (by decide) (by decide) kz) ?_
    refine Go.of (fun _ kz => XS.aload X4.here hx rfl (hb hby d7_54) rfl rfl kz) ?_
    refine Go.ret X4 (v := some (.ref b3)) (fun h => by rw [Bd.returns] at h; cases h) Bd.notSynchronized (fun fs hr => retOut X4 hx Bd.returns rfl (Or.inr (Or.inr (Or.inr (Or.inr ⟨rfl, rfl, rfl⟩)))) (hb hby d7_56) hr) (by decide) (by decide) ?_
    show Q_rm_co_4 Z _ _ _ _ _ _ h0 n0 _ T4.heap _
    rw [e4]
    exact ⟨_, _, _, _, rfl, N4, Kk3, sz_b3, V3, Or.inr ⟨rfl, rfl⟩⟩

theorem ef_rm_cal_4_0 (m : MethodId) (x0 : Addr) (x1 : Int32) : entryFrame m #[(.ref x0), (.int x1)] 2 = mkF m 0 #[.val (.ref x0), .val (.int x1)] [] := by first | (simp [entryFrame, mkF, argsToLocals, Value.category]; done) | rfl
def Q_rm_cal_4_0 (Z : State) (b : Addr) (kb : ClassId) (vs : List Value) (h0 : Heap) (n0 : Nat) (v : Option Value) (h : Heap) (L : List Loc) : Prop := v = some (.int (0 : Int32)) ∧ Fr n0 L ∧ h = h0
set_option maxRecDepth 65536 in
set_option maxHeartbeats 40000000 in
theorem rm_cal_4_0 (l : Launch) (Z : State) (a0 : Array Value) (hw : ∀ d ∈ tables_1, d.before a0 Z = true) (wz : List Jvm.Cond) (b : Addr) (kb : ClassId) (vs : List Value) (h0 : Heap) (n0 : Nat) (O0 : Old Z n0 h0) (Vb : Arv Z h0 b kb .byte (4 : Int32) vs (.int (0 : Int32))) :
    MetFree l y_18 (head1 (Jvm.Cond.code y_18 jdk_52_method_15_code 2 (some .byte) :: wz) ({ frames := 0, cells := 0, slots := 0, locals := 0 } : Room)) (fun aZ UZ => aZ = #[(.ref b), (.int (4 : Int32))] ∧ Z.Warmed39 UZ.vm ∧ UZ.heap = h0) (fun _ _ _ _ _ => True) (fun _ UZ oZ UY => ∃ vZ LZ, oZ = .returned vZ ∧ Q_rm_cal_4_0 Z b kb vs h0 n0 vZ UY.heap LZ ∧ FrameEnd UZ oZ UY LZ ({ frames := 0, cells := 0, slots := 0, locals := 0 } : Room).cells ({ frames := 0, cells := 0, slots := 0, locals := 0 } : Room).slots) := by
  refine MetFree.of_bodySF (plainFor_of_name pn_9) hisR ?_
  intro p e s m args below meth c s₁ Bd hml0 hP hK
  obtain ⟨rfl, hZ, hh⟩ := hP
  have hx := Bd.exec
  have hby := Bd.bytes
  have hml : c.maxLocals = 2 := hml0
  have hown : s.vm.findClass "java/lang/StringUTF16" = some m.cls := findClass_of_methodNamed Bd.named
  have hnm := (name_of_methodNamed Bd.named Bd.method).1
  have X0 : Stand p l e ({ frames := 0, cells := 0, slots := 0, locals := 0 } : Room) s m #[(.ref b), (.int (4 : Int32))] below meth c s₁ [] 0 0 := Stand.of_body Bd
  have e0 : s₁.heap = h0 := by rw [← hh, Bd.state]; rfl
  have N0 := Fr.nil n0
  have Z0 : n0 ≤ h0.size := O0.1 ▸ O0.2.1
  have K0 := Keep.refl h0 []
  show Go p e below (fun oW tW LW => FrameEnd s oW tW LW ({ frames := 0, cells := 0, slots := 0, locals := 0 } : Room).cells ({ frames := 0, cells := 0, slots := 0, locals := 0 } : Room).slots) (Q_rm_cal_4_0 Z b kb vs h0 n0) s₁ (entryFrame m #[(.ref b), (.int (4 : Int32))] 2)
  refine Go.of (fun t kz => castTop (ef_rm_cal_4_0 m b (4 : Int32)) kz) ?_
  show Go _ _ _ _ _ s₁ (mkF m 0 #[.val (.ref b), .val (.int (4 : Int32))] [])
  refine Go.of (fun _ kz => XS.iloadN X0.here hx rfl (hb hby d9_0) rfl (XS.aloadN X0.here hx rfl (hb hby d9_1) rfl rfl kz)) ?_
  obtain ⟨cl1a, Ar1a, q1a, S1a, N1a, H1a, G1a⟩ := id Vb
  refine Go.of (fun _ kz => X0.arraylength hx (by rw [e0]; exact Ar1a.1) (State.isArrayOf_alike hZ.alike Ar1a.2.1) (g := (mkF m 2 #[.val (.ref b), .val (.int (4 : Int32))] [(.ref b), (.int (4 : Int32))])) rfl rfl (hb hby d9_2) _ kz) ?_
  rw [(len_of S1a N1a)]
  refine Go.of (fun _ kz => XS.isub X0.here hx rfl (hb hby d9_3) rfl kz) ?_
  show Go _ _ _ _ _ s₁ (mkF m 4 #[.val (.ref b), .val (.int (4 : Int32))] [(.int ((4 : Int32) - (4 : Int32)))])
  rw [(by decide : ((4 : Int32) - (4 : Int32)) = (0 : Int32))]
  refine Go.of (fun _ kz => XS.bipush X0.here hx rfl (hb hby d9_4) (XS.iushr X0.here hx rfl (hb hby d9_6) rfl kz)) ?_
  show Go _ _ _ _ _ s₁ (mkF m 7 #[.val (.ref b), .val (.int (4 : Int32))] [(.int (((0 : Int32).toUInt32 >>> ((31 : Int32) &&& 31).toUInt32).toInt32))])
  rw [(by decide : (((0 : Int32).toUInt32 >>> ((31 : Int32) &&& 31).toUInt32).toInt32) = (0 : Int32))]
  refine Go.of (fun _ kz => XS.i2b X0.here hx rfl (hb hby d9_7) rfl kz) ?_
  show Go _ _ _ _ _ s₁ (mkF m 8 #[.val (.ref b), .val (.int (4 : Int32))] [(.int ((0 : Int32).toInt8.toInt32))])
  rw [(by decide : ((0 : Int32).toInt8.toInt32) = (0 : Int32))]
  show Go _ _ _ _ _ s₁ (mkF m 8 #[.val (.ref b), .val (.int (4 : Int32))] [(.int (0 : Int32))])
  refine Go.ret X0 (v := some (.int (0 : Int32))) (fun h => by rw [Bd.returns] at h; cases h) Bd.notSynchronized (fun fs hr => retN X0 hx (t := .byte) Bd.returns (by simp) (hb hby d9_8) hr) (by decide) (by decide) ?_
  show Q_rm_cal_4_0 Z _ _ _ h0 n0 _ s₁.heap _
  rw [e0]
  exact ⟨rfl, N0, rfl⟩

theorem ef_rm_cal_4_1 (m : MethodId) (x0 : Addr) (x1 : Int32) : entryFrame m #[(.ref x0), (.int x1)] 2 = mkF m 0 #[.val (.ref x0), .val (.int x1)] [] := by first | (simp [entryFrame, mkF, argsToLocals, Value.category]; done) | rfl
def Q_rm_cal_4_1 (Z : State) (b : Addr) (kb : ClassId) (vs : List Value) (h0 : Heap) (n0 : Nat) (v : Option Value) (h : Heap) (L : List Loc) : Prop := v = some (.int (1 : Int32)) ∧ Fr n0 L ∧ h = h0
set_option maxRecDepth 65536 in
set_option maxHeartbeats 40000000 in
theorem rm_cal_4_1 (l : Launch) (Z : State) (a0 : Array Value) (hw : ∀ d ∈ tables_1, d.before a0 Z = true) (wz : List Jvm.Cond) (b : Addr) (kb : ClassId) (vs : List Value) (h0 : Heap) (n0 : Nat) (O0 : Old Z n0 h0) (Vb : Arv Z h0 b kb .byte (8 : Int32) vs (.int (0 : Int32))) :
    MetFree l y_18 (head1 (Jvm.Cond.code y_18 jdk_52_method_15_code 2 (some .byte) :: wz) ({ frames := 0, cells := 0, slots := 0, locals := 0 } : Room)) (fun aZ UZ => aZ = #[(.ref b), (.int (4 : Int32))] ∧ Z.Warmed39 UZ.vm ∧ UZ.heap = h0) (fun _ _ _ _ _ => True) (fun _ UZ oZ UY => ∃ vZ LZ, oZ = .returned vZ ∧ Q_rm_cal_4_1 Z b kb vs h0 n0 vZ UY.heap LZ ∧ FrameEnd UZ oZ UY LZ ({ frames := 0, cells := 0, slots := 0, locals := 0 } : Room).cells ({ frames := 0, cells := 0, slots := 0, locals := 0 } : Room).slots) := by
  refine MetFree.of_bodySF (plainFor_of_name pn_9) hisR ?_
  intro p e s m args below meth c s₁ Bd hml0 hP hK
  obtain ⟨rfl, hZ, hh⟩ := hP
  have hx := Bd.exec
  have hby := Bd.bytes
  have hml : c.maxLocals = 2 := hml0
  have hown : s.vm.findClass "java/lang/StringUTF16" = some m.cls := findClass_of_methodNamed Bd.named
  have hnm := (name_of_methodNamed Bd.named Bd.method).1
  have X0 : Stand p l e ({ frames := 0, cells := 0, slots := 0, locals := 0 } : Room) s m #[(.ref b), (.int (4 : Int32))] below meth c s₁ [] 0 0 := Stand.of_body Bd
  have e0 : s₁.heap = h0 := by rw [← hh, Bd.state]; rfl
  have N0 := Fr.nil n0
  have Z0 : n0 ≤ h0.size := O0.1 ▸ O0.2.1
  have K0 := Keep.refl h0 []
  show Go p e below (fun oW tW LW => FrameEnd s oW tW LW ({ frames := 0, cells := 0, slots := 0, locals := 0 } : Room).cells ({ frames := 0, cells := 0, slots := 0, locals := 0 } : Room).slots) (Q_rm_cal_4_1 Z b kb vs h0 n0) s₁ (entryFrame m #[(.ref b), (.int (4 : Int32))] 2)
  refine Go.of (fun t kz => castTop (ef_rm_cal_4_1 m b (4 : Int32)) kz) ?_
  show Go _ _ _ _ _ s₁ (mkF m 0 #[.val (.ref b), .val (.int (4 : Int32))] [])
  refine Go.of (fun _ kz => XS.iloadN X0.here hx rfl (hb hby d9_0) rfl (XS.aloadN X0.here hx rfl (hb hby d9_1) rfl rfl kz)) ?_
  obtain ⟨cl1a, Ar1a, q1a, S1a, N1a, H1a, G1a⟩ := id Vb
  refine Go.of (fun _ kz => X0.arraylength hx (by rw [e0]; exact Ar1a.1) (State.isArrayOf_alike hZ.alike Ar1a.2.1) (g := (mkF m 2 #[.val (.ref b), .val (.int (4 : Int32))] [(.ref b), (.int (4 : Int32))])) rfl rfl (hb hby d9_2) _ kz) ?_
  rw [(len_of S1a N1a)]
  refine Go.of (fun _ kz => XS.isub X0.here hx rfl (hb hby d9_3) rfl kz) ?_
  show Go _ _ _ _ _ s₁ (mkF m 4 #[.val (.ref b), .val (.int (4 : Int32))] [(.int ((4 : Int32) - (8 : Int32)))])
  rw [(by decide : ((4 : Int32) - (8 : Int32)) = (-4 : Int32))]
  refine Go.of (fun _ kz => XS.bipush X0.here hx rfl (hb hby d9_4) (XS.iushr X0.here hx rfl (hb hby d9_6) rfl kz)) ?_
  show Go _ _ _ _ _ s₁ (mkF m 7 #[.val (.ref b), .val (.int (4 : Int32))] [(.int (((-4 : Int32).toUInt32 >>> ((31 : Int32) &&& 31).toUInt32).toInt32))])
  rw [(by decide : (((-4 : Int32).toUInt32 >>> ((31 : Int32) &&& 31).toUInt32).toInt32) = (1 : Int32))]
  refine Go.of (fun _ kz => XS.i2b X0.here hx rfl (hb hby d9_7) rfl kz) ?_
  show Go _ _ _ _ _ s₁ (mkF m 8 #[.val (.ref b), .val (.int (4 : Int32))] [(.int ((1 : Int32).toInt8.toInt32))])
  rw [(by decide : ((1 : Int32).toInt8.toInt32) = (1 : Int32))]
  show Go _ _ _ _ _ s₁ (mkF m 8 #[.val (.ref b), .val (.int (4 : Int32))] [(.int (1 : Int32))])
  refine Go.ret X0 (v := some (.int (1 : Int32))) (fun h => by rw [Bd.returns] at h; cases h) Bd.notSynchronized (fun fs hr => retN X0 hx (t := .byte) Bd.returns (by simp) (hb hby d9_8) hr) (by decide) (by decide) ?_
  show Q_rm_cal_4_1 Z _ _ _ h0 n0 _ s₁.heap _
  rw [e0]
  exact ⟨rfl, N0, rfl⟩

theorem ef_rm_in2_4 (m : MethodId) (x0 : Addr) (x1 : Addr) (x2 : Int32) (x3 : Int32) : entryFrame m #[(.ref x0), (.ref x1), (.int x2), (.int x3), .null] 6 = mkF m 0 #[.val (.ref x0), .val (.ref x1), .val (.int x2), .val (.int x3), .val .null, .unset] [] := by first | (simp [entryFrame, mkF, argsToLocals, Value.category]; done) | rfl
def Q_rm_in2_4 (Z : State) (a : Addr) (cs : Addr) (kc : ClassId) (u0 : UInt16) (u1 : UInt16) (u2 : UInt16) (u3 : UInt16) (csz : Int32) (h0 : Heap) (n0 : Nat) (v : Option Value) (h : Heap) (L : List Loc) : Prop := v = none ∧ Fr n0 L ∧ Keep h0 h [a] ∧ Exa Z h a "java/lang/String" ∧ ∃ (b : Addr) (kb : ClassId) (cd z : Int32) (vs : List Value), Fld Z h a "java/lang/String" "value" "[B" (.ref b) ∧ Fld Z h a "java/lang/String" "coder" "B" (.int cd) ∧ Arv Z h b kb .byte z vs (.int (0 : Int32)) ∧ nar .byte cd = cd ∧ ((cd = (0 : Int32) ∧ z = (4 : Int32) ∧ vs = [(.int ((own_lo u0).toInt32)), (.int ((own_lo u1).toInt32)), (.int ((own_lo u2).toInt32)), (.int ((own_lo u3).toInt32))] ∧ (¬ (255 : Int32) < (own_ch u0) ∧ ¬ (255 : Int32) < (own_ch u1) ∧ ¬ (255 : Int32) < (own_ch u2) ∧ ¬ (255 : Int32) < (own_ch u3))) ∨ (cd = (1 : Int32) ∧ z = (8 : Int32) ∧ vs = [(.int ((own_lo0 u0).toInt32)), (.int ((own_hi8 u0).toInt32)), (.int ((own_lo0 u1).toInt32)), (.int ((own_hi8 u1).toInt32)), (.int ((own_lo0 u2).toInt32)), (.int ((own_hi8 u2).toInt32)), (.int ((own_lo0 u3).toInt32)), (.int ((own_hi8 u3).toInt32))]))
set_option maxRecDepth 65536 in
set_option maxHeartbeats 40000000 in
theorem rm_in2_4 (l : Launch) (Z : State) (a0 : Array Value) (hw : ∀ d ∈ tables_1, d.before a0 Z = true) (wz : List Jvm.Cond) (a : Addr) (cs : Addr) (kc : ClassId) (u0 : UInt16) (u1 : UInt16) (u2 : UInt16) (u3 : UInt16) (csz : Int32) (h0 : Heap) (n0 : Nat) (O0 : Old Z n0 h0) (E : Exa Z h0 a "java/lang/String") (Fv : Fld Z h0 a "java/lang/String" "value" "[B" .null) (Fc : Fld Z h0 a "java/lang/String" "coder" "B" (.int (0 : Int32))) (ge_a : n0 ≤ a) (hac : cs ≠ a) (Vc : Arv Z h0 cs kc .char (4 : Int32) [(.int (own_ch u0)), (.int (own_ch u1)), (.int (own_ch u2)), (.int (own_ch u3))] (.int (0 : Int32))) (Sas : Sta Z Z.heap "java/lang/StringUTF16" "$assertionsDisabled" "Z" (.int (1 : Int32))) (Shi : Sta Z Z.heap "java/lang/StringUTF16" "HI_BYTE_SHIFT" "I" (.int (0 : Int32))) (Slo : Sta Z Z.heap "java/lang/StringUTF16" "LO_BYTE_SHIFT" "I" (.int (8 : Int32))) (Scs : Sta Z Z.heap "java/lang/String" "COMPACT_STRINGS" "Z" (.int csz)) (hcs : ¬ csz = (0 : Int32)) :
    MetFree l y_19 (head1 (Jvm.Cond.code y_19 jdk_42_method_149_code 6 none :: wz) ({ frames := 4, cells := 2, slots := 12, locals := 57 } : Room)) (fun aZ UZ => aZ = #[(.ref a), (.ref cs), (.int (0 : Int32)), (.int (4 : Int32)), .null] ∧ Z.Warmed39 UZ.vm ∧ UZ.heap = h0) (fun _ _ _ _ _ => True) (fun _ UZ oZ UY => ∃ vZ LZ, oZ = .returned vZ ∧ Q_rm_in2_4 Z a cs kc u0 u1 u2 u3 csz h0 n0 vZ UY.heap LZ ∧ FrameEnd UZ oZ UY LZ ({ frames := 4, cells := 2, slots := 12, locals := 57 } : Room).cells ({ frames := 4, cells := 2, slots := 12, locals := 57 } : Room).slots) := by
  refine MetFree.of_bodySF (plainFor_of_name pn_3) hisR ?_
  intro p e s m args below meth c s₁ Bd hml0 hP hK
  obtain ⟨rfl, hZ, hh⟩ := hP
  have hx := Bd.exec
  have hby := Bd.bytes
  have hml : c.maxLocals = 6 := hml0
  have hown : s.vm.findClass "java/lang/String" = some m.cls := findClass_of_methodNamed Bd.named
  have hnm := (name_of_methodNamed Bd.named Bd.method).1
  have X0 : Stand p l e ({ frames := 4, cells := 2, slots := 12, locals := 57 } : Room) s m #[(.ref a), (.ref cs), (.int (0 : Int32)), (.int (4 : Int32)), .null] below meth c s₁ [] 0 0 := Stand.of_body Bd
  have e0 : s₁.heap = h0 := by rw [← hh, Bd.state]; rfl
  have N0 := Fr.nil n0
  have Z0 : n0 ≤ h0.size := O0.1 ▸ O0.2.1
  have K0 := Keep.refl h0 []
  show Go p e below (fun oW tW LW => FrameEnd s oW tW LW ({ frames := 4, cells := 2, slots := 12, locals := 57 } : Room).cells ({ frames := 4, cells := 2, slots := 12, locals := 57 } : Room).slots) (Q_rm_in2_4 Z a cs kc u0 u1 u2 u3 csz h0 n0) s₁ (entryFrame m #[(.ref a), (.ref cs), (.int (0 : Int32)), (.int (4 : Int32)), .null] 6)
  refine Go.of (fun t kz => castTop (ef_rm_in2_4 m a cs (0 : Int32) (4 : Int32)) kz) ?_
  show Go _ _ _ _ _ s₁ (mkF m 0 #[.val (.ref a), .val (.ref cs), .val (.int (0 : Int32)), .val (.int (4 : Int32)), .val .null, .unset] [])
  refine Go.of (fun _ kz => XS.aloadN X0.here hx rfl (hb hby d3_0) rfl rfl kz) ?_
  show Go _ _ _ _ _ s₁ (mkF m 1 #[.val (.ref a), .val (.ref cs), .val (.int (0 : Int32)), .val (.int (4 : Int32)), .val .null, .unset] [(.ref a)])
  obtain ⟨T1, X1, e1, st1⟩ := initO X0 hx hZ hown (w17 hw) (w18 hw) (w19 hw) e0 (g := (mkF m 1 #[.val (.ref a), .val (.ref cs), .val (.int (0 : Int32)), .val (.int (4 : Int32)), .val .null, .unset] [(.ref a)])) rfl (by rw [hml]; rfl) rfl (hb hby d3_1) (by decide) (W := 0) (by show 2 * 0 + _ ≤ _; exact Nat.le_of_eq rfl) (by decide)
  refine Go.of (fun _ kz => st1 _ kz) ?_
  refine Go.of (fun _ kz => XS.iloadN X1.here hx rfl (hb hby d3_4) rfl kz) ?_
  refine Go.of (fun _ kz => XS.ifYes X1.here hx rfl (pc0 := 5) (pc' := 27) rfl (hb hby d3_5) rfl ((if0 _ _).trans (feq (by decide : ¬ (4 : Int32) = (0 : Int32))).2) (by decide) (by decide) kz) ?_
  show Go _ _ _ _ _ T1 (mkF m 27 #[.val (.ref a), .val (.ref cs), .val (.int (0 : Int32)), .val (.int (4 : Int32)), .val .null, .unset] [])
  refine Go.getS X1 hx hZ hown (host := "") (Or.inl (w37 hw)) Via.refl e1 ((Scs).ext O0.2) (hb hby d3_27) fun T2 X2 e2 => ?_
  refine Go.of (fun _ kz => XS.ifNo X2.here hx rfl (hb hby d3_30) rfl ((if0 _ _).trans (feq hcs).1) kz) ?_
  refine Go.of (fun _ kz => XS.aloadN X2.here hx rfl (hb hby d3_33) rfl rfl (XS.iloadN X2.here hx rfl (hb hby d3_34) rfl (XS.iloadN X2.here hx rfl (hb hby d3_35) rfl kz))) ?_
  show Go _ _ _ _ _ T2 (mkF m 36 #[.val (.ref a), .val (.ref cs), .val (.int (0 : Int32)), .val (.int (4 : Int32)), .val .null, .unset] [(.int (4 : Int32)), (.int (0 : Int32)), (.ref cs)])
  refine Go.callS X2 hx hZ hown (y := y_17) (w38 hw) (w39 hw) (w40 hw) (w41 hw) (by decide) (rm_co_4 l Z a0 hw [] cs kc u0 u1 u2 u3 h0 n0 O0 Vc Sas Shi Slo) e2 0 (by decide) (by decide) (by rw [hml]; rfl) (argsL := [(.ref cs), (.int (0 : Int32)), (.int (4 : Int32))]) (rest := []) (lenOf pd_11 rfl) rfl rfl (Nat.le_of_eq rfl) (hb hby d3_36) (c2 := 2) (s2 := 12) rfl rfl (by decide) (by decide) fun v3 T3 Lc3 L3 X3 l3 hQ3 => ?_
  obtain ⟨b3, kb3, zz3, vs3, rfl, N3q, K3, hsz3, V3, hD3⟩ := hQ3
  have N3 : Fr n0 L3 := by rw [l3]; exact Fr.app N0 N3q
  have ne_a_b3 : a ≠ b3 := Nat.ne_of_lt (Nat.lt_of_lt_of_le E.lt hsz3)
  have f3_Exa_a := E.keep K3
  have f3_Fld_a_value := Fv.keep K3 nin0
  have f3_Fld_a_coder := Fc.keep K3 nin0
  have f3_Arv_cs := Vc.keep K3 nin0
  have O3 := O0.keep K3 all0
  have Kk3 := (Keep.refl h0 [a]).trans K3 all0
  show Go _ _ _ _ _ T3 (mkF m 39 #[.val (.ref a), .val (.ref cs), .val (.int (0 : Int32)), .val (.int (4 : Int32)), .val .null, .unset] [(.ref b3)])
  rcases hD3 with ⟨rfl, rfl, hlat⟩ | ⟨rfl, rfl⟩
  · show Go _ _ _ _ _ T3 (mkF m 39 #[.val (.ref a), .val (.ref cs), .val (.int (0 : Int32)), .val (.int (4 : Int32)), .val .null, .unset] [(.ref b3)])
    refine Go.of (fun _ kz => XS.astore X3.here hx rfl (hb hby d3_39) rfl rfl (l' := #[.val (.ref a), .val (.ref cs), .val (.int (0 : Int32)), .val (.int (4 : Int32)), .val .null, .val (.ref b3)]) rfl (XS.aloadN X3.here hx rfl (hb hby d3_41) rfl rfl (XS.aload X3.here hx rfl (hb hby d3_42) rfl rfl (XS.iloadN X3.here hx rfl (hb hby d3_44) rfl kz)))) ?_
    show Go _ _ _ _ _ T3 (mkF m 45 #[.val (.ref a), .val (.ref cs), .val (.int (0 : Int32)), .val (.int (4 : Int32)), .val .null, .val (.ref b3)] [(.int (4 : Int32)), (.ref b3), (.ref a)])
    refine Go.callS X3 hx hZ hown (y := y_18) (w45 hw) (w46 hw) (w40 hw) (w47 hw) (by decide) (rm_cal_4_0 l Z a0 hw [] b3 kb3 [(.int ((own_lo u0).toInt32)), (.int ((own_lo u1).toInt32)), (.int ((own_lo u2).toInt32)), (.int ((own_lo u3).toInt32))] T3.heap n0 O3 V3) rfl 1 (by decide) (by decide) (by rw [hml]; rfl) (argsL := [(.ref b3), (.int (4 : Int32))]) (rest := [(.ref a)]) (lenOf pd_12 rfl) rfl rfl (Nat.le_of_eq rfl) (hb hby d3_45) (c2 := 2) (s2 := 12) rfl rfl (by decide) (by decide) fun v4 T4 Lc4 L4 X4 l4 hQ4 => ?_
    obtain ⟨rfl, N4q, e4⟩ := hQ4
    have N4 : Fr n0 L4 := by rw [l4]; exact Fr.app N3 N4q
    obtain ⟨T5, h5, X5, e5, W5, st5⟩ := putFN X4 hx hZ hown (w27 hw) Via.refl e4 f3_Fld_a_coder f3_Exa_a (Or.inr ⟨(w23 hw), rfl, hnm⟩) (w3 hw) (ty := .byte) (v' := (.int (0 : Int32))) (by decide) rfl (by decide) (g := (mkF m 48 #[.val (.ref a), .val (.ref cs), .val (.int (0 : Int32)), .val (.int (4 : Int32)), .val .null, .val (.ref b3)] [(.int (0 : Int32)), (.ref a)])) rfl rfl (hb hby d3_48)
    have Fw5 := f3_Fld_a_coder.same W5
    have f5_Exa_a := f3_Exa_a.wr W5
    have f5_Fld_a_value := f3_Fld_a_value.other W5 (Or.inr (slot_ne (Or.inr (w22 hw)) (Or.inr (w23 hw)) (by decide) (t := (.array .byte)) (t' := .byte) (by decide) (by decide)))
    have f5_Arv_cs := f3_Arv_cs.other W5 hac
    have f5_Arv_b3 := V3.other W5 (Ne.symm ne_a_b3)
    have O5 := O3.wr W5 ge_a
    have N5 := Fr.snoc X5 N4 ge_a
    have Kk5 := Kk3.wr W5 (Or.inl (List.mem_singleton.mpr rfl))
    refine Go.of (fun _ kz => st5 _ kz) ?_
    refine Go.of (fun _ kz => XS.aloadN X5.here hx rfl (hb hby d3_51) rfl rfl (XS.aload X5.here hx rfl (hb hby d3_52) rfl rfl kz)) ?_
    obtain ⟨T6, h6, X6, e6, W6, st6⟩ := putF X5 hx hZ hown (host := "") (Or.inl (w26 hw)) Via.refl e5 f5_Fld_a_value f5_Exa_a (Or.inr ⟨(w22 hw), rfl, hnm⟩) (w3 hw) (ty := (.array .byte)) (by decide) rfl rfl (g := (mkF m 54 #[.val (.ref a), .val (.ref cs), .val (.int (0 : Int32)), .val (.int (4 : Int32)), .val .null, .val (.ref b3)] [(.ref b3), (.ref a)])) rfl rfl (hb hby d3_54)
    have Fw6 := f5_Fld_a_value.same W6
    have f6_Exa_a := f5_Exa_a.wr W6
    have f6_Fld_a_coder := Fw5.other W6 (Or.inr (slot_ne (Or.inr (w23 hw)) (Or.inr (w22 hw)) (by decide) (t := .byte) (t' := (.array .byte)) (by decide) (by decide)))
    have f6_Arv_cs := f5_Arv_cs.other W6 hac
    have f6_Arv_b3 := f5_Arv_b3.other W6 (Ne.symm ne_a_b3)
    have O6 := O5.wr W6 ge_a
    have N6 := Fr.snoc X6 N5 ge_a
    have Kk6 := Kk5.wr W6 (Or.inl (List.mem_singleton.mpr rfl))
    refine Go.of (fun _ kz => st6 _ kz) ?_
    refine Go.ret X6 (v := none) (fun _ => rfl) Bd.notSynchronized (fun fs hr => X6.returnOut hx Bd.returns (hb hby d3_57) hr) (by decide) (by decide) ?_
    show Q_rm_in2_4 Z _ _ _ _ _ _ _ _ h0 n0 _ T6.heap _
    rw [e6]
    exact ⟨rfl, N6, Kk6, f6_Exa_a, _, _, _, _, _, Fw6, f6_Fld_a_coder, f6_Arv_b3, by decide, Or.inl ⟨rfl, rfl, rfl, hlat⟩⟩
  · show Go _ _ _ _ _ T3 (mkF m 39 #[.val (.ref a), .val (.ref cs), .val (.int (0 : Int32)), .val (.int (4 : Int32)), .val .null, .unset] [(.ref b3)])
    refine Go.of (fun _ kz => XS.astore X3.here hx rfl (hb hby d3_39) rfl rfl (l' := #[.val (.ref a), .val (.ref cs), .val (.int (0 : Int32)), .val (.int (4 : Int32)), .val .null, .val (.ref b3)]) rfl (XS.aloadN X3.here hx rfl (hb hby d3_41) rfl rfl (XS.aload X3.here hx rfl (hb hby d3_42) rfl rfl (XS.iloadN X3.here hx rfl (hb hby d3_44) rfl kz)))) ?_
    show Go _ _ _ _ _ T3 (mkF m 45 #[.val (.ref a), .val (.ref cs), .val (.int (0 : Int32)), .val (.int (4 : Int32)), .val .null, .val (.ref b3)] [(.int (4 : Int32)), (.ref b3), (.ref a)])
    refine Go.callS X3 hx hZ hown (y := y_18) (w45 hw) (w46 hw) (w40 hw) (w47 hw) (by decide) (rm_cal_4_1 l Z a0 hw [] b3 kb3 [(.int ((own_lo0 u0).toInt32)), (.int ((own_hi8 u0).toInt32)), (.int ((own_lo0 u1).toInt32)), (.int ((own_hi8 u1).toInt32)), (.int ((own_lo0 u2).toInt32)), (.int ((own_hi8 u2).toInt32)), (.int ((own_lo0 u3).toInt32)), (.int ((own_hi8 u3).toInt32))] T3.heap n0 O3 V3) rfl 1 (by decide) (by decide) (by rw [hml]; rfl) (argsL := [(.ref b3), (.int (4 : Int32))]) (rest := [(.ref a)]) (lenOf pd_12 rfl) rfl rfl (Nat.le_of_eq rfl) (hb hby d3_45) (c2 := 2) (s2 := 12) rfl rfl (by decide) (by decide) fun v7 T7 Lc7 L7 X7 l7 hQ7 => ?_
    obtain ⟨rfl, N7q, e7⟩ := hQ7
    have N7 : Fr n0 L7 := by rw [l7]; exact Fr.app N3 N7q
    obtain ⟨T8, h8, X8, e8, W8, st8⟩ := putFN X7 hx hZ hown (w27 hw) Via.refl e7 f3_Fld_a_coder f3_Exa_a (Or.inr ⟨(w23 hw), rfl, hnm⟩) (w3 hw) (ty := .byte) (v' := (.int (1 : Int32))) (by decide) rfl (by decide) (g := (mkF m 48 #[.val (.ref a), .val (.ref cs), .val (.int (0 : Int32)), .val (.int (4 : Int32)), .val .null, .val (.ref b3)] [(.int (1 : Int32)), (.ref a)])) rfl rfl (hb hby d3_48)
    have Fw8 := f3_Fld_a_coder.same W8
    have f8_Exa_a := f3_Exa_a.wr W8
    have f8_Fld_a_value := f3_Fld_a_value.other W8 (Or.inr (slot_ne (Or.inr (w22 hw)) (Or.inr (w23 hw)) (by decide) (t := (.array .byte)) (t' := .byte) (by decide) (by decide)))
    have f8_Arv_cs := f3_Arv_cs.other W8 hac
    have f8_Arv_b3 := V3.other W8 (Ne.symm ne_a_b3)
    have O8 := O3.wr W8 ge_a
    have N8 := Fr.snoc X8 N7 ge_a
    have Kk8 := Kk3.wr W8 (Or.inl (List.mem_singleton.mpr rfl))
    refine Go.of (fun _ kz => st8 _ kz) ?_
    refine Go.of (fun _ kz => XS.aloadN X8.here hx rfl (hb hby d3_51) rfl rfl (XS.aload X8.here hx rfl (hb hby d3_52) rfl rfl kz)) ?_
    obtain ⟨T9, h9, X9, e9, W9, st9⟩ := putF X8 hx hZ hown (host := "") (Or.inl (w26 hw)) Via.refl e8 f8_Fld_a_value f8_Exa_a (Or.inr ⟨(w22 hw), rfl, hnm⟩) (w3 hw) (ty := (.array .byte)) (by decide) rfl rfl (g := (mkF m 54 #[.val (.ref a), .val (.ref cs), .val (.int (0 : Int32)), .val (.int (4 : Int32)), .val .null, .val (.ref b3)] [(.ref b3), (.ref a)])) rfl rfl (hb hby d3_54)
    have Fw9 := f8_Fld_a_value.same W9
    have f9_Exa_a := f8_Exa_a.wr W9
    have f9_Fld_a_coder := Fw8.other W9 (Or.inr (slot_ne (Or.inr (w23 hw)) (Or.inr (w22 hw)) (by decide) (t := .byte) (t' := (.array .byte)) (by decide) (by decide)))
    have f9_Arv_cs := f8_Arv_cs.other W9 hac
    have f9_Arv_b3 := f8_Arv_b3.other W9 (Ne.symm ne_a_b3)
    have O9 := O8.wr W9 ge_a
    have N9 := Fr.snoc X9 N8 ge_a
    have Kk9 := Kk8.wr W9 (Or.inl (List.mem_singleton.mpr rfl))
    refine Go.of (fun _ kz => st9 _ kz) ?_
    refine Go.ret X9 (v := none) (fun _ => rfl) Bd.notSynchronized (fun fs hr => X9.returnOut hx Bd.returns (hb hby d3_57) hr) (by decide) (by decide) ?_
    show Q_rm_in2_4 Z _ _ _ _ _ _ _ _ h0 n0 _ T9.heap _
    rw [e9]
    exact ⟨rfl, N9, Kk9, f9_Exa_a, _, _, _, _, _, Fw9, f9_Fld_a_coder, f9_Arv_b3, by decide, Or.inr ⟨rfl, rfl, rfl⟩⟩

theorem ef_rm_in1_4 (m : MethodId) (x0 : Addr) (x1 : Addr) : entryFrame m #[(.ref x0), (.ref x1)] 2 = mkF m 0 #[.val (.ref x0), .val (.ref x1)] [] := by first | (simp [entryFrame, mkF, argsToLocals, Value.category]; done) | rfl
def Q_rm_in1_4 (Z : State) (a : Addr) (cs : Addr) (kc : ClassId) (u0 : UInt16) (u1 : UInt16) (u2 : UInt16) (u3 : UInt16) (csz : Int32) (h0 : Heap) (n0 : Nat) (v : Option Value) (h : Heap) (L : List Loc) : Prop := v = none ∧ Fr n0 L ∧ Keep h0 h [a] ∧ Exa Z h a "java/lang/String" ∧ ∃ (b : Addr) (kb : ClassId) (cd z : Int32) (vs : List Value), Fld Z h a "java/lang/String" "value" "[B" (.ref b) ∧ Fld Z h a "java/lang/String" "coder" "B" (.int cd) ∧ Arv Z h b kb .byte z vs (.int (0 : Int32)) ∧ nar .byte cd = cd ∧ ((cd = (0 : Int32) ∧ z = (4 : Int32) ∧ vs = [(.int ((own_lo u0).toInt32)), (.int ((own_lo u1).toInt32)), (.int ((own_lo u2).toInt32)), (.int ((own_lo u3).toInt32))] ∧ (¬ (255 : Int32) < (own_ch u0) ∧ ¬ (255 : Int32) < (own_ch u1) ∧ ¬ (255 : Int32) < (own_ch u2) ∧ ¬ (255 : Int32) < (own_ch u3))) ∨ (cd = (1 : Int32) ∧ z = (8 : Int32) ∧ vs = [(.int ((own_lo0 u0).toInt32)), (.int ((own_hi8 u0).toInt32)), (.int ((own_lo0 u1).toInt32)), (.int ((own_hi8 u1).toInt32)), (.int ((own_lo0 u2).toInt32)), (.int ((own_hi8 u2).toInt32)), (.int ((own_lo0 u3).toInt32)), (.int ((own_hi8 u3).toInt32))]))
set_option maxRecDepth 65536 in
set_option maxHeartbeats 40000000 in
theorem rm_in1_4 (l : Launch) (Z : State) (a0 : Array Value) (hw : ∀ d ∈ tables_1, d.before a0 Z = true) (wz : List Jvm.Cond) (a : Addr) (cs : Addr) (kc : ClassId) (u0 : UInt16) (u1 : UInt16) (u2 : UInt16) (u3 : UInt16) (csz : Int32) (h0 : Heap) (n0 : Nat) (O0 : Old Z n0 h0) (E : Exa Z h0 a "java/lang/String") (Fv : Fld Z h0 a "java/lang/String" "value" "[B" .null) (Fc : Fld Z h0 a "java/lang/String" "coder" "B" (.int (0 : Int32))) (ge_a : n0 ≤ a) (hac : cs ≠ a) (Vc : Arv Z h0 cs kc .char (4 : Int32) [(.int (own_ch u0)), (.int (own_ch u1)), (.int (own_ch u2)), (.int (own_ch u3))] (.int (0 : Int32))) (Sas : Sta Z Z.heap "java/lang/StringUTF16" "$assertionsDisabled" "Z" (.int (1 : Int32))) (Shi : Sta Z Z.heap "java/lang/StringUTF16" "HI_BYTE_SHIFT" "I" (.int (0 : Int32))) (Slo : Sta Z Z.heap "java/lang/StringUTF16" "LO_BYTE_SHIFT" "I" (.int (8 : Int32))) (Scs : Sta Z Z.heap "java/lang/String" "COMPACT_STRINGS" "Z" (.int csz)) (hcs : ¬ csz = (0 : Int32)) :
    MetFree l y_20 (head1 (Jvm.Cond.code y_20 jdk_42_method_3_code 2 none :: wz) ({ frames := 5, cells := 2, slots := 12, locals := 74 } : Room)) (fun aZ UZ => aZ = #[(.ref a), (.ref cs)] ∧ Z.Warmed39 UZ.vm ∧ UZ.heap = h0) (fun _ _ _ _ _ => True) (fun _ UZ oZ UY => ∃ vZ LZ, oZ = .returned vZ ∧ Q_rm_in1_4 Z a cs kc u0 u1 u2 u3 csz h0 n0 vZ UY.heap LZ ∧ FrameEnd UZ oZ UY LZ ({ frames := 5, cells := 2, slots := 12, locals := 74 } : Room).cells ({ frames := 5, cells := 2, slots := 12, locals := 74 } : Room).slots) := by
  refine MetFree.of_bodySF (plainFor_of_name pn_2) hisR ?_
  intro p e s m args below meth c s₁ Bd hml0 hP hK
  obtain ⟨rfl, hZ, hh⟩ := hP
  have hx := Bd.exec
  have hby := Bd.bytes
  have hml : c.maxLocals = 2 := hml0
  have hown : s.vm.findClass "java/lang/String" = some m.cls := findClass_of_methodNamed Bd.named
  have hnm := (name_of_methodNamed Bd.named Bd.method).1
  have X0 : Stand p l e ({ frames := 5, cells := 2, slots := 12, locals := 74 } : Room) s m #[(.ref a), (.ref cs)] below meth c s₁ [] 0 0 := Stand.of_body Bd
  have e0 : s₁.heap = h0 := by rw [← hh, Bd.state]; rfl
  have N0 := Fr.nil n0
  have Z0 : n0 ≤ h0.size := O0.1 ▸ O0.2.1
  have K0 := Keep.refl h0 []
  show Go p e below (fun oW tW LW => FrameEnd s oW tW LW ({ frames := 5, cells := 2, slots := 12, locals := 74 } : Room).cells ({ frames := 5, cells := 2, slots := 12, locals := 74 } : Room).slots) (Q_rm_in1_4 Z a cs kc u0 u1 u2 u3 csz h0 n0) s₁ (entryFrame m #[(.ref a), (.ref cs)] 2)
  refine Go.of (fun t kz => castTop (ef_rm_in1_4 m a cs) kz) ?_
  show Go _ _ _ _ _ s₁ (mkF m 0 #[.val (.ref a), .val (.ref cs)] [])
  refine Go.of (fun _ kz => XS.aloadN X0.here hx rfl (hb hby d2_0) rfl rfl (XS.aloadN X0.here hx rfl (hb hby d2_1) rfl rfl (XS.iconst X0.here hx rfl (hb hby d2_2) (XS.aloadN X0.here hx rfl (hb hby d2_3) rfl rfl kz)))) ?_
  obtain ⟨cl1a, Ar1a, q1a, S1a, N1a, H1a, G1a⟩ := id Vc
  refine Go.of (fun _ kz => X0.arraylength hx (by rw [e0]; exact Ar1a.1) (State.isArrayOf_alike hZ.alike Ar1a.2.1) (g := (mkF m 4 #[.val (.ref a), .val (.ref cs)] [(.ref cs), (.int (0 : Int32)), (.ref cs), (.ref a)])) rfl rfl (hb hby d2_4) _ kz) ?_
  rw [(len_of S1a N1a)]
  refine Go.of (fun _ kz => XS.aconstNull X0.here hx rfl (hb hby d2_5) kz) ?_
  show Go _ _ _ _ _ s₁ (mkF m 6 #[.val (.ref a), .val (.ref cs)] [.null, (.int (4 : Int32)), (.int (0 : Int32)), (.ref cs), (.ref a)])
  refine Go.callI X0 hx hZ hown (y := y_19) rfl (w13 hw) (w14 hw) (w4 hw) (w16 hw) (by decide) (a := a) (rm_in2_4 l Z a0 hw [] a cs kc u0 u1 u2 u3 csz h0 n0 O0 E Fv Fc ge_a hac Vc Sas Shi Slo Scs hcs) e0 0 (by decide) (by decide) (by rw [hml]; rfl) (argsL := [(.ref cs), (.int (0 : Int32)), (.int (4 : Int32)), .null]) (rest := []) (lenOf pd_13 rfl) rfl rfl (Nat.le_of_eq rfl) (hb hby d2_6) (c2 := 2) (s2 := 12) rfl rfl (by decide) (by decide) fun v2 T2 Lc2 L2 X2 l2 hQ2 => ?_
  obtain ⟨rfl, N2q, hR2⟩ := hQ2
  have N2 : Fr n0 L2 := by rw [l2]; exact Fr.app N0 N2q
  refine Go.ret X2 (v := none) (fun _ => rfl) Bd.notSynchronized (fun fs hr => X2.returnOut hx Bd.returns (hb hby d2_9) hr) (by decide) (by decide) ?_
  show Q_rm_in1_4 Z _ _ _ _ _ _ _ _ h0 n0 _ T2.heap _
  exact ⟨rfl, N2, hR2⟩

theorem ef_rm_ci_5 (m : MethodId) (x0 : Addr) (x1 : Int32) (x2 : Addr) (x3 : Int32) (x4 : Int32) : entryFrame m #[(.ref x0), (.int x1), (.ref x2), (.int x3), (.int x4)] 7 = mkF m 0 #[.val (.ref x0), .val (.int x1), .val (.ref x2), .val (.int x3), .val (.int x4), .unset, .unset] [] := by first | (simp [entryFrame, mkF, argsToLocals, Value.category]; done) | rfl
def Q_rm_ci_5 (Z : State) (cs : Addr) (bs : Addr) (kc : ClassId) (kb : ClassId) (u0 : UInt16) (u1 : UInt16) (u2 : UInt16) (u3 : UInt16) (u4 : UInt16) (h0 : Heap) (n0 : Nat) (v : Option Value) (h : Heap) (L : List Loc) : Prop := ∃ k : Int32, v = some (.int k) ∧ Fr n0 L ∧ Keep h0 h [bs] ∧ ((k = (5 : Int32) ∧ (¬ (255 : Int32) < (own_ch u0) ∧ ¬ (255 : Int32) < (own_ch u1) ∧ ¬ (255 : Int32) < (own_ch u2) ∧ ¬ (255 : Int32) < (own_ch u3) ∧ ¬ (255 : Int32) < (own_ch u4)) ∧ Arv Z h bs kb .byte (5 : Int32) [(.int ((own_lo u0).toInt32)), (.int ((own_lo u1).toInt32)), (.int ((own_lo u2).toInt32)), (.int ((own_lo u3).toInt32)), (.int ((own_lo u4).toInt32))] (.int (0 : Int32))) ∨ ((k = (0 : Int32) ∧ (255 : Int32) < (own_ch u0)) ∨ (k = (1 : Int32) ∧ ¬ (255 : Int32) < (own_ch u0) ∧ (255 : Int32) < (own_ch u1)) ∨ (k = (2 : Int32) ∧ ¬ (255 : Int32) < (own_ch u0) ∧ ¬ (255 : Int32) < (own_ch u1) ∧ (255 : Int32) < (own_ch u2)) ∨ (k = (3 : Int32) ∧ ¬ (255 : Int32) < (own_ch u0) ∧ ¬ (255 : Int32) < (own_ch u1) ∧ ¬ (255 : Int32) < (own_ch u2) ∧ (255 : Int32) < (own_ch u3)) ∨ (k = (4 : Int32) ∧ ¬ (255 : Int32) < (own_ch u0) ∧ ¬ (255 : Int32) < (own_ch u1) ∧ ¬ (255 : Int32) < (own_ch u2) ∧ ¬ (255 : Int32) < (own_ch u3) ∧ (255 : Int32) < (own_ch u4))))
set_option maxRecDepth 65536 in
set_option maxHeartbeats 40000000 in
theorem rm_ci_5 (l : Launch) (Z : State) (a0 : Array Value) (hw : ∀ d ∈ tables_1, d.before a0 Z = true) (wz : List Jvm.Cond) (cs : Addr) (bs : Addr) (kc : ClassId) (kb : ClassId) (u0 : UInt16) (u1 : UInt16) (u2 : UInt16) (u3 : UInt16) (u4 : UInt16) (h0 : Heap) (n0 : Nat) (O0 : Old Z n0 h0) (Vc : Arv Z h0 cs kc .char (5 : Int32) [(.int (own_ch u0)), (.int (own_ch u1)), (.int (own_ch u2)), (.int (own_ch u3)), (.int (own_ch u4))] (.int (0 : Int32))) (Vb : Arv Z h0 bs kb .byte (5 : Int32) [(.int (0 : Int32)), (.int (0 : Int32)), (.int (0 : Int32)), (.int (0 : Int32)), (.int (0 : Int32))] (.int (0 : Int32))) (hne : cs ≠ bs) (ge_bs : n0 ≤ bs) :
    MetFree l y_13 (head1 (Jvm.Cond.code y_13 jdk_52_method_21_code 7 (some .int) :: wz) ({ frames := 0, cells := 0, slots := 0, locals := 0 } : Room)) (fun aZ UZ => aZ = #[(.ref cs), (.int (0 : Int32)), (.ref bs), (.int (0 : Int32)), (.int (5 : Int32))] ∧ Z.Warmed39 UZ.vm ∧ UZ.heap = h0) (fun _ _ _ _ _ => True) (fun _ UZ oZ UY => ∃ vZ LZ, oZ = .returned vZ ∧ Q_rm_ci_5 Z cs bs kc kb u0 u1 u2 u3 u4 h0 n0 vZ UY.heap LZ ∧ FrameEnd UZ oZ UY LZ ({ frames := 0, cells := 0, slots := 0, locals := 0 } : Room).cells ({ frames := 0, cells := 0, slots := 0, locals := 0 } : Room).slots) := by
  refine MetFree.of_bodySF (plainFor_of_name pn_8) hisR ?_
  intro p e s m args below meth c s₁ Bd hml0 hP hK
  obtain ⟨rfl, hZ, hh⟩ := hP
  have hx := Bd.exec
  have hby := Bd.bytes
  have hml : c.maxLocals = 7 := hml0
  have hown : s.vm.findClass "java/lang/StringUTF16" = some m.cls := findClass_of_methodNamed Bd.named
  have hnm := (name_of_methodNamed Bd.named Bd.method).1
  have X0 : Stand p l e ({ frames := 0, cells := 0, slots := 0, locals := 0 } : Room) s m #[(.ref cs), (.int (0 : Int32)), (.ref bs), (.int (0 : Int32)), (.int (5 : Int32))] below meth c s₁ [] 0 0 := Stand.of_body Bd
  have e0 : s₁.heap = h0 := by rw [← hh, Bd.state]; rfl
  have N0 := Fr.nil n0
  have Z0 : n0 ≤ h0.size := O0.1 ▸ O0.2.1
  have K0 := Keep.refl h0 []
  show Go p e below (fun oW tW LW => FrameEnd s oW tW LW ({ frames := 0, cells := 0, slots := 0, locals := 0 } : Room).cells ({ frames := 0, cells := 0, slots := 0, locals := 0 } : Room).slots) (Q_rm_ci_5 Z cs bs kc kb u0 u1 u2 u3 u4 h0 n0) s₁ (entryFrame m #[(.ref cs), (.int (0 : Int32)), (.ref bs), (.int (0 : Int32)), (.int (5 : Int32))] 7)
  refine Go.of (fun t kz => castTop (ef_rm_ci_5 m cs (0 : Int32) bs (0 : Int32) (5 : Int32)) kz) ?_
  show Go _ _ _ _ _ s₁ (mkF m 0 #[.val (.ref cs), .val (.int (0 : Int32)), .val (.ref bs), .val (.int (0 : Int32)), .val (.int (5 : Int32)), .unset, .unset] [])
  refine Go.of (fun _ kz => XS.iconst X0.here hx rfl (hb hby d8_0) (XS.istore X0.here hx rfl (hb hby d8_1) rfl (l' := #[.val (.ref cs), .val (.int (0 : Int32)), .val (.ref bs), .val (.int (0 : Int32)), .val (.int (5 : Int32)), .val (.int (0 : Int32)), .unset]) rfl (XS.iload X0.here hx rfl (hb hby d8_3) rfl (XS.iload X0.here hx rfl (hb hby d8_5) rfl kz)))) ?_
  refine Go.of (fun _ kz => XS.icmpNo X0.here hx rfl (hb hby d8_7) rfl (tlt (by decide : (0 : Int32) < (5 : Int32))).2.1 kz) ?_
  refine Go.of (fun _ kz => XS.aloadN X0.here hx rfl (hb hby d8_10) rfl rfl (XS.iloadN X0.here hx rfl (hb hby d8_11) rfl kz)) ?_
  show Go _ _ _ _ _ s₁ (mkF m 12 #[.val (.ref cs), .val (.int (0 : Int32)), .val (.ref bs), .val (.int (0 : Int32)), .val (.int (5 : Int32)), .val (.int (0 : Int32)), .unset] [(.int (0 : Int32)), (.ref cs)])
  obtain ⟨cl1a, Ar1a, q1a, S1a, N1a, H1a, G1a⟩ := id Vc
  have hin1 := inb_of S1a (j := (0 : Int32)) ⟨by decide, by decide⟩
  refine Go.of (fun _ kz => X0.caload hx (j := (0 : Int32)) (v := (.int (own_ch u0))) (by rw [e0]; exact Ar1a.1) (State.isArrayOf_alike hZ.alike Ar1a.2.1) Ar1a.2.2 hin1 (H1a.at hin1 rfl) (g := (mkF m 12 #[.val (.ref cs), .val (.int (0 : Int32)), .val (.ref bs), .val (.int (0 : Int32)), .val (.int (5 : Int32)), .val (.int (0 : Int32)), .unset] [(.int (0 : Int32)), (.ref cs)])) rfl rfl (hb hby d8_12) _ kz) ?_
  refine Go.of (fun _ kz => XS.istore X0.here hx rfl (hb hby d8_13) rfl (l' := #[.val (.ref cs), .val (.int (0 : Int32)), .val (.ref bs), .val (.int (0 : Int32)), .val (.int (5 : Int32)), .val (.int (0 : Int32)), .val (.int (own_ch u0))]) rfl (XS.iload X0.here hx rfl (hb hby d8_15) rfl (XS.sipush X0.here hx rfl (hb hby d8_17) kz))) ?_
  by_cases hc20_2 : (255 : Int32) < (own_ch u0)
  · refine Go.of (fun _ kz => XS.icmpNo X0.here hx rfl (hb hby d8_20) rfl (tlt hc20_2).2.2.2 kz) ?_
    refine Go.of (fun _ kz => XS.iload X0.here hx rfl (hb hby d8_23) rfl kz) ?_
    refine Go.ret X0 (v := some (.int (0 : Int32))) (fun h => by rw [Bd.returns] at h; cases h) Bd.notSynchronized (fun fs hr => own_retI X0 hx Bd.returns (hb hby d8_25) hr) (by decide) (by decide) ?_
    show Q_rm_ci_5 Z _ _ _ _ _ _ _ _ _ h0 n0 _ s₁.heap _
    rw [e0]
    exact ⟨_, rfl, N0, (Keep.refl h0 [bs]), Or.inr (Or.inl ⟨rfl, hc20_2⟩)⟩
  · refine Go.of (fun _ kz => XS.icmpYes X0.here hx rfl (pc0 := 20) (pc' := 26) rfl (hb hby d8_20) rfl (flt hc20_2).2.2.2 (by decide) (by decide) kz) ?_
    refine Go.of (fun _ kz => XS.aloadN X0.here hx rfl (hb hby d8_26) rfl rfl (XS.iloadN X0.here hx rfl (hb hby d8_27) rfl (XS.iload X0.here hx rfl (hb hby d8_28) rfl (XS.i2b X0.here hx rfl (hb hby d8_30) rfl kz)))) ?_
    show Go _ _ _ _ _ s₁ (mkF m 31 #[.val (.ref cs), .val (.int (0 : Int32)), .val (.ref bs), .val (.int (0 : Int32)), .val (.int (5 : Int32)), .val (.int (0 : Int32)), .val (.int (own_ch u0))] [(.int ((own_lo u0).toInt32)), (.int (0 : Int32)), (.ref bs)])
    obtain ⟨cl3a, Ar3a, q3a, S3a, N3a, H3a, G3a⟩ := id Vb
    have hin3 := inb_of S3a (j := (0 : Int32)) ⟨by decide, by decide⟩
    obtain ⟨T3, h3, X3, e3, W3, st3⟩ := stB X0 hx hZ e0 Ar3a (j := (0 : Int32)) hin3 (g := (mkF m 31 #[.val (.ref cs), .val (.int (0 : Int32)), .val (.ref bs), .val (.int (0 : Int32)), .val (.int (5 : Int32)), .val (.int (0 : Int32)), .val (.int (own_ch u0))] [(.int ((own_lo u0).toInt32)), (.int (0 : Int32)), (.ref bs)])) rfl rfl (hb hby d8_31)
    rw [own_narb (own_lo u0)] at W3
    have V3_bs : Arv Z h3 bs kb .byte (5 : Int32) [(.int ((own_lo u0).toInt32)), (.int (0 : Int32)), (.int (0 : Int32)), (.int (0 : Int32)), (.int (0 : Int32))] (.int (0 : Int32)) := Arv.set Ar3a q3a S3a N3a H3a G3a (own_fitb _) W3 0 rfl (Nat.le_of_ble_eq_true rfl)
    have f3_Arv_cs := Vc.other W3 hne
    have O3 := O0.wr W3 ge_bs
    have Kk3 := (Keep.refl h0 [bs]).wr W3 (Or.inl (List.mem_singleton.mpr rfl))
    have N3 := Fr.snoc X3 N0 ge_bs
    refine Go.of (fun _ kz => st3 _ kz) ?_
    refine Go.of (fun _ kz => XS.iinc X3.here hx rfl (hb hby d8_32) rfl (l' := #[.val (.ref cs), .val (.int (1 : Int32)), .val (.ref bs), .val (.int (0 : Int32)), .val (.int (5 : Int32)), .val (.int (0 : Int32)), .val (.int (own_ch u0))]) rfl (XS.iinc X3.here hx rfl (hb hby d8_35) rfl (l' := #[.val (.ref cs), .val (.int (1 : Int32)), .val (.ref bs), .val (.int (1 : Int32)), .val (.int (5 : Int32)), .val (.int (0 : Int32)), .val (.int (own_ch u0))]) rfl (XS.iinc X3.here hx rfl (hb hby d8_38) rfl (l' := #[.val (.ref cs), .val (.int (1 : Int32)), .val (.ref bs), .val (.int (1 : Int32)), .val (.int (5 : Int32)), .val (.int (1 : Int32)), .val (.int (own_ch u0))]) rfl (XS.goto X3.here hx rfl (pc0 := 41) (pc' := 3) rfl (hb hby d8_41) (by decide) (by decide) (XS.iload X3.here hx rfl (hb hby d8_3) rfl (XS.iload X3.here hx rfl (hb hby d8_5) rfl kz)))))) ?_
    show Go _ _ _ _ _ T3 (mkF m 7 #[.val (.ref cs), .val (.int (1 : Int32)), .val (.ref bs), .val (.int (1 : Int32)), .val (.int (5 : Int32)), .val (.int (1 : Int32)), .val (.int (own_ch u0))] [(.int (5 : Int32)), (.int (1 : Int32))])
    refine Go.of (fun _ kz => XS.icmpNo X3.here hx rfl (hb hby d8_7) rfl (tlt (by decide : (1 : Int32) < (5 : Int32))).2.1 kz) ?_
    refine Go.of (fun _ kz => XS.aloadN X3.here hx rfl (hb hby d8_10) rfl rfl (XS.iloadN X3.here hx rfl (hb hby d8_11) rfl kz)) ?_
    obtain ⟨cl4a, Ar4a, q4a, S4a, N4a, H4a, G4a⟩ := id f3_Arv_cs
    have hin4 := inb_of S4a (j := (1 : Int32)) ⟨by decide, by decide⟩
    refine Go.of (fun _ kz => X3.caload hx (j := (1 : Int32)) (v := (.int (own_ch u1))) (by rw [e3]; exact Ar4a.1) (State.isArrayOf_alike hZ.alike Ar4a.2.1) Ar4a.2.2 hin4 (H4a.at hin4 rfl) (g := (mkF m 12 #[.val (.ref cs), .val (.int (1 : Int32)), .val (.ref bs), .val (.int (1 : Int32)), .val (.int (5 : Int32)), .val (.int (1 : Int32)), .val (.int (own_ch u0))] [(.int (1 : Int32)), (.ref cs)])) rfl rfl (hb hby d8_12) _ kz) ?_
    refine Go.of (fun _ kz => XS.istore X3.here hx rfl (hb hby d8_13) rfl (l' := #[.val (.ref cs), .val (.int (1 : Int32)), .val (.ref bs), .val (.int (1 : Int32)), .val (.int (5 : Int32)), .val (.int (1 : Int32)), .val (.int (own_ch u1))]) rfl (XS.iload X3.here hx rfl (hb hby d8_15) rfl (XS.sipush X3.here hx rfl (hb hby d8_17) kz))) ?_
    show Go _ _ _ _ _ T3 (mkF m 20 #[.val (.ref cs), .val (.int (1 : Int32)), .val (.ref bs), .val (.int (1 : Int32)), .val (.int (5 : Int32)), .val (.int (1 : Int32)), .val (.int (own_ch u1))] [(.int (255 : Int32)), (.int (own_ch u1))])
    by_cases hc20_5 : (255 : Int32) < (own_ch u1)
    · refine Go.of (fun _ kz => XS.icmpNo X3.here hx rfl (hb hby d8_20) rfl (tlt hc20_5).2.2.2 kz) ?_
      refine Go.of (fun _ kz => XS.iload X3.here hx rfl (hb hby d8_23) rfl kz) ?_
      refine Go.ret X3 (v := some (.int (1 : Int32))) (fun h => by rw [Bd.returns] at h; cases h) Bd.notSynchronized (fun fs hr => own_retI X3 hx Bd.returns (hb hby d8_25) hr) (by decide) (by decide) ?_
      show Q_rm_ci_5 Z _ _ _ _ _ _ _ _ _ h0 n0 _ T3.heap _
      rw [e3]
      exact ⟨_, rfl, N3, Kk3, Or.inr (Or.inr (Or.inl ⟨rfl, hc20_2, hc20_5⟩))⟩
    · refine Go.of (fun _ kz => XS.icmpYes X3.here hx rfl (pc0 := 20) (pc' := 26) rfl (hb hby d8_20) rfl (flt hc20_5).2.2.2 (by decide) (by decide) kz) ?_
      refine Go.of (fun _ kz => XS.aloadN X3.here hx rfl (hb hby d8_26) rfl rfl (XS.iloadN X3.here hx rfl (hb hby d8_27) rfl (XS.iload X3.here hx rfl (hb hby d8_28) rfl (XS.i2b X3.here hx rfl (hb hby d8_30) rfl kz)))) ?_
      obtain ⟨cl6a, Ar6a, q6a, S6a, N6a, H6a, G6a⟩ := id V3_bs
      have hin6 := inb_of S6a (j := (1 : Int32)) ⟨by decide, by decide⟩
      obtain ⟨T6, h6, X6, e6, W6, st6⟩ := stB X3 hx hZ e3 Ar6a (j := (1 : Int32)) hin6 (g := (mkF m 31 #[.val (.ref cs), .val (.int (1 : Int32)), .val (.ref bs), .val (.int (1 : Int32)), .val (.int (5 : Int32)), .val (.int (1 : Int32)), .val (.int (own_ch u1))] [(.int ((own_lo u1).toInt32)), (.int (1 : Int32)), (.ref bs)])) rfl rfl (hb hby d8_31)
      rw [own_narb (own_lo u1)] at W6
      have V6_bs : Arv Z h6 bs kb .byte (5 : Int32) [(.int ((own_lo u0).toInt32)), (.int ((own_lo u1).toInt32)), (.int (0 : Int32)), (.int (0 : Int32)), (.int (0 : Int32))] (.int (0 : Int32)) := Arv.set Ar6a q6a S6a N6a H6a G6a (own_fitb _) W6 1 rfl (Nat.le_of_ble_eq_true rfl)
      have f6_Arv_cs := f3_Arv_cs.other W6 hne
      have O6 := O3.wr W6 ge_bs
      have Kk6 := Kk3.wr W6 (Or.inl (List.mem_singleton.mpr rfl))
      have N6 := Fr.snoc X6 N3 ge_bs
      refine Go.of (fun _ kz => st6 _ kz) ?_
      refine Go.of (fun _ kz => XS.iinc X6.here hx rfl (hb hby d8_32) rfl (l' := #[.val (.ref cs), .val (.int (2 : Int32)), .val (.ref bs), .val (.int (1 : Int32)), .val (.int (5 : Int32)), .val (.int (1 : Int32)), .val (.int (own_ch u1))]) rfl (XS.iinc X6.here hx rfl (hb hby d8_35) rfl (l' := #[.val (.ref cs), .val (.int (2 : Int32)), .val (.ref bs), .val (.int (2 : Int32)), .val (.int (5 : Int32)), .val (.int (1 : Int32)), .val (.int (own_ch u1))]) rfl (XS.iinc X6.here hx rfl (hb hby d8_38) rfl (l' := #[.val (.ref cs), .val (.int (2 : Int32)), .val (.ref bs), .val (.int (2 : Int32)), .val (.int (5 : Int32)), .val (.int (2 : Int32)), .val (.int (own_ch u1))]) rfl (XS.goto X6.here hx rfl (pc0 := 41) (pc' := 3) rfl (hb hby d8_41) (by decide) (by decide) (XS.iload X6.here hx rfl (hb hby d8_3) rfl (XS.iload X6.here hx rfl (hb hby d8_5) rfl kz)))))) ?_
      show Go _ _ _ _ _ T6 (mkF m 7 #[.val (.ref cs), .val (.int (2 : Int32)), .val (.ref bs), .val (.int (2 : Int32)), .val (.int (5 : Int32)), .val (.int (2 : Int32)), .val (.int (own_ch u1))] [(.int (5 : Int32)), (.int (2 : Int32))])
      refine Go.of (fun _ kz => XS.icmpNo X6.here hx rfl (hb hby d8_7) rfl (tlt (by decide : (2 : Int32) < (5 : Int32))).2.1 kz) ?_
      refine Go.of (fun _ kz => XS.aloadN X6.here hx rfl (hb hby d8_10) rfl rfl (XS.iloadN X6.here hx rfl (hb hby d8_11) rfl kz)) ?_
      obtain ⟨cl7a, Ar7a, q7a, S7a, N7a, H7a, G7a⟩ := id f6_Arv_cs
      have hin7 := inb_of S7a (j := (2 : Int32)) ⟨by decide, by decide⟩
      refine Go.of (fun _ kz => X6.caload hx (j := (2 : Int32)) (v := (.int (own_ch u2))) (by rw [e6]; exact Ar7a.1) (State.isArrayOf_alike hZ.alike Ar7a.2.1) Ar7a.2.2 hin7 (H7a.at hin7 rfl) (g := (mkF m 12 #[.val (.ref cs), .val (.int (2 : Int32)), .val (.ref bs), .val (.int (2 : Int32)), .val (.int (5 : Int32)), .val (.int (2 : Int32)), .val (.int (own_ch u1))] [(.int (2 : Int32)), (.ref cs)])) rfl rfl (hb hby d8_12) _ kz) ?_
      refine Go.of (fun _ kz => XS.istore X6.here hx rfl (hb hby d8_13) rfl (l' := #[.val (.ref cs), .val (.int (2 : Int32)), .val (.ref bs), .val (.int (2 : Int32)), .val (.int (5 : Int32)), .val (.int (2 : Int32)), .val (.int (own_ch u2))]) rfl (XS.iload X6.here hx rfl (hb hby d8_15) rfl (XS.sipush X6.here hx rfl (hb hby d8_17) kz))) ?_
      show Go _ _ _ _ _ T6 (mkF m 20 #[.val (.ref cs), .val (.int (2 : Int32)), .val (.ref bs), .val (.int (2 : Int32)), .val (.int (5 : Int32)), .val (.int (2 : Int32)), .val (.int (own_ch u2))] [(.int (255 : Int32)), (.int (own_ch u2))])
      by_cases hc20_8 : (255 : Int32) < (own_ch u2)
      · refine Go.of (fun _ kz => XS.icmpNo X6.here hx rfl (hb hby d8_20) rfl (tlt hc20_8).2.2.2 kz) ?_
        refine Go.of (fun _ kz => XS.iload X6.here hx rfl (hb hby d8_23) rfl kz) ?_
        refine Go.ret X6 (v := some (.int (2 : Int32))) (fun h => by rw [Bd.returns] at h; cases h) Bd.notSynchronized (fun fs hr => own_retI X6 hx Bd.returns (hb hby d8_25) hr) (by decide) (by decide) ?_
        show Q_rm_ci_5 Z _ _ _ _ _ _ _ _ _ h0 n0 _ T6.heap _
        rw [e6]
        exact ⟨_, rfl, N6, Kk6, Or.inr (Or.inr (Or.inr (Or.inl ⟨rfl, hc20_2, hc20_5, hc20_8⟩)))⟩
      · refine Go.of (fun _ kz => XS.icmpYes X6.here hx rfl (pc0 := 20) (pc' := 26) rfl (hb hby d8_20) rfl (flt hc20_8).2.2.2 (by decide) (by decide) kz) ?_
        refine Go.of (fun _ kz => XS.aloadN X6.here hx rfl (hb hby d8_26) rfl rfl (XS.iloadN X6.here hx rfl (hb hby d8_27) rfl (XS.iload X6.here hx rfl (hb hby d8_28) rfl (XS.i2b X6.here hx rfl (hb hby d8_30) rfl kz)))) ?_
        obtain ⟨cl9a, Ar9a, q9a, S9a, N9a, H9a, G9a⟩ := id V6_bs
        have hin9 := inb_of S9a (j := (2 : Int32)) ⟨by decide, by decide⟩
        obtain ⟨T9, h9, X9, e9, W9, st9⟩ := stB X6 hx hZ e6 Ar9a (j := (2 : Int32)) hin9 (g := (mkF m 31 #[.val (.ref cs), .val (.int (2 : Int32)), .val (.ref bs), .val (.int (2 : Int32)), .val (.int (5 : Int32)), .val (.int (2 : Int32)), .val (.int (own_ch u2))] [(.int ((own_lo u2).toInt32)), (.int (2 : Int32)), (.ref bs)])) rfl rfl (hb hby d8_31)
        rw [own_narb (own_lo u2)] at W9
        have V9_bs : Arv Z h9 bs kb .byte (5 : Int32) [(.int ((own_lo u0).toInt32)), (.int ((own_lo u1).toInt32)), (.int ((own_lo u2).toInt32)), (.int (0 : Int32)), (.int (0 : Int32))] (.int (0 : Int32)) := Arv.set Ar9a q9a S9a N9a H9a G9a (own_fitb _) W9 2 rfl (Nat.le_of_ble_eq_true rfl)
        have f9_Arv_cs := f6_Arv_cs.other W9 hne
        have O9 := O6.wr W9 ge_bs
        have Kk9 := Kk6.wr W9 (Or.inl (List.mem_singleton.mpr rfl))
        have N9 := Fr.snoc X9 N6 ge_bs
        refine Go.of (fun _ kz => st9 _ kz) ?_
        refine Go.of (fun _ kz => XS.iinc X9.here hx rfl (hb hby d8_32) rfl (l' := #[.val (.ref cs), .val (.int (3 : Int32)), .val (.ref bs), .val (.int (2 : Int32)), .val (.int (5 : Int32)), .val (.int (2 : Int32)), .val (.int (own_ch u2))]) rfl (XS.iinc X9.here hx rfl (hb hby d8_35) rfl (l' := #[.val (.ref cs), .val (.int (3 : Int32)), .val (.ref bs), .val (.int (3 : Int32)), .val (.int (5 : Int32)), .val (.int (2 : Int32)), .val (.int (own_ch u2))]) rfl (XS.iinc X9.here hx rfl (hb hby d8_38) rfl (l' := #[.val (.ref cs), .val (.int (3 : Int32)), .val (.ref bs), .val (.int (3 : Int32)), .val (.int (5 : Int32)), .val (.int (3 : Int32)), .val (.int (own_ch u2))]) rfl (XS.goto X9.here hx rfl (pc0 := 41) (pc' := 3) rfl (hb hby d8_41) (by decide) (by decide) (XS.iload X9.here hx rfl (hb hby d8_3) rfl (XS.iload X9.here hx rfl (hb hby d8_5) rfl kz)))))) ?_
        show Go _ _ _ _ _ T9 (mkF m 7 #[.val (.ref cs), .val (.int (3 : Int32)), .val (.ref bs), .val (.int (3 : Int32)), .val (.int (5 : Int32)), .val (.int (3 : Int32)), .val (.int (own_ch u2))] [(.int (5 : Int32)), (.int (3 : Int32))])
        refine Go.of (fun _ kz => XS.icmpNo X9.here hx rfl (hb hby d8_7) rfl (tlt (by decide : (3 : Int32) < (5 : Int32))).2.1 kz) ?_
        refine Go.of (fun _ kz => XS.aloadN X9.here hx rfl (hb hby d8_10) rfl rfl (XS.iloadN X9.here hx rfl (hb hby d8_11) rfl kz)) ?_
        obtain ⟨cl10a, Ar10a, q10a, S10a, N10a, H10a, G10a⟩ := id f9_Arv_cs
        have hin10 := inb_of S10a (j := (3 : Int32)) ⟨by decide, by decide⟩
        refine Go.of (fun _ kz => X9.caload hx (j := (3 : Int32)) (v := (.int (own_ch u3))) (by rw [e9]; exact Ar10a.1) (State.isArrayOf_alike hZ.alike Ar10a.2.1) Ar10a.2.2 hin10 (H10a.at hin10 rfl) (g := (mkF m 12 #[.val (.ref cs), .val (.int (3 : Int32)), .val (.ref bs), .val (.int (3 : Int32)), .val (.int (5 : Int32)), .val (.int (3 : Int32)), .val (.int (own_ch u2))] [(.int (3 : Int32)), (.ref cs)])) rfl rfl (hb hby d8_12) _ kz) ?_
        refine Go.of (fun _ kz => XS.istore X9.here hx rfl (hb hby d8_13) rfl (l' := #[.val (.ref cs), .val (.int (3 : Int32)), .val (.ref bs), .val (.int (3 : Int32)), .val (.int (5 : Int32)), .val (.int (3 : Int32)), .val (.int (own_ch u3))]) rfl (XS.iload X9.here hx rfl (hb hby d8_15) rfl (XS.sipush X9.here hx rfl (hb hby d8_17) kz))) ?_
        show Go _ _ _ _ _ T9 (mkF m 20 #[.val (.ref cs), .val (.int (3 : Int32)), .val (.ref bs), .val (.int (3 : Int32)), .val (.int (5 : Int32)), .val (.int (3 : Int32)), .val (.int (own_ch u3))] [(.int (255 : Int32)), (.int (own_ch u3))])
        by_cases hc20_11 : (255 : Int32) < (own_ch u3)
        · refine Go.of (fun _ kz => XS.icmpNo X9.here hx rfl (hb hby d8_20) rfl (tlt hc20_11).2.2.2 kz) ?_
          refine Go.of (fun _ kz => XS.iload X9.here hx rfl (hb hby d8_23) rfl kz) ?_
          refine Go.ret X9 (v := some (.int (3 : Int32))) (fun h => by rw [Bd.returns] at h; cases h) Bd.notSynchronized (fun fs hr => own_retI X9 hx Bd.returns (hb hby d8_25) hr) (by decide) (by decide) ?_
          show Q_rm_ci_5 Z _ _ _ _ _ _ _ _ _ h0 n0 _ T9.heap _
          rw [e9]
          exact ⟨_, rfl, N9, Kk9, Or.inr (Or.inr (Or.inr (Or.inr (Or.inl ⟨rfl, hc20_2, hc20_5, hc20_8, hc20_11⟩))))⟩
        · refine Go.of (fun _ kz => XS.icmpYes X9.here hx rfl (pc0 := 20) (pc' := 26) rfl (hb hby d8_20) rfl (flt hc20_11).2.2.2 (by decide) (by decide) kz) ?_
          refine Go.of (fun _ kz => XS.aloadN X9.here hx rfl (hb hby d8_26) rfl rfl (XS.iloadN X9.here hx rfl (hb hby d8_27) rfl (XS.iload X9.here hx rfl (hb hby d8_28) rfl (XS.i2b X9.here hx rfl (hb hby d8_30) rfl kz)))) ?_
          obtain ⟨cl12a, Ar12a, q12a, S12a, N12a, H12a, G12a⟩ := id V9_bs
          have hin12 := inb_of S12a (j := (3 : Int32)) ⟨by decide, by decide⟩
          obtain ⟨T12, h12, X12, e12, W12, st12⟩ := stB X9 hx hZ e9 Ar12a (j := (3 : Int32)) hin12 (g := (mkF m 31 #[.val (.ref cs), .val (.int (3 : Int32)), .val (.ref bs), .val (.int (3 : Int32)), .val (.int (5 : Int32)), .val (.int (3 : Int32)), .val (.int (own_ch u3))] [(.int ((own_lo u3).toInt32)), (.int (3 : Int32)), (.ref bs)])) rfl rfl (hb hby d8_31)
          rw [own_narb (own_lo u3)] at W12
          have V12_bs : Arv Z h12 bs kb .byte (5 : Int32) [(.int ((own_lo u0).toInt32)), (.int ((own_lo u1).toInt32)), (.int ((own_lo u2).toInt32)), (.int ((own_lo u3).toInt32)), (.int (0 : Int32))] (.int (0 : Int32)) := Arv.set Ar12a q12a S12a N12a H12a G12a (own_fitb _) W12 3 rfl (Nat.le_of_ble_eq_true rfl)
          have f12_Arv_cs := f9_Arv_cs.other W12 hne
          have O12 := O9.wr W12 ge_bs
          have Kk12 := Kk9.wr W12 (Or.inl (List.mem_singleton.mpr rfl))
          have N12 := Fr.snoc X12 N9 ge_bs
          refine Go.of (fun _ kz => st12 _ kz) ?_
          refine Go.of (fun _ kz => XS.iinc X12.here hx rfl (hb hby d8_32) rfl (l' := #[.val (.ref cs), .val (.int (4 : Int32)), .val (.ref bs), .val (.int (3 : Int32)), .val (.int (5 : Int32)), .val (.int (3 : Int32)), .val (.int (own_ch u3))]) rfl (XS.iinc X12.here hx rfl (hb hby d8_35) rfl (l' := #[.val (.ref cs), .val (.int (4 : Int32)), .val (.ref bs), .val (.int (4 : Int32)), .val (.int (5 : Int32)), .val (.int (3 : Int32)), .val (.int (own_ch u3))]) rfl (XS.iinc X12.here hx rfl (hb hby d8_38) rfl (l' := #[.val (.ref cs), .val (.int (4 : Int32)), .val (.ref bs), .val (.int (4 : Int32)), .val (.int (5 : Int32)), .val (.int (4 : Int32)), .val (.int (own_ch u3))]) rfl (XS.goto X12.here hx rfl (pc0 := 41) (pc' := 3) rfl (hb hby d8_41) (by decide) (by decide) (XS.iload X12.here hx rfl (hb hby d8_3) rfl (XS.iload X12.here hx rfl (hb hby d8_5) rfl kz)))))) ?_
          show Go _ _ _ _ _ T12 (mkF m 7 #[.val (.ref cs), .val (.int (4 : Int32)), .val (.ref bs), .val (.int (4 : Int32)), .val (.int (5 : Int32)), .val (.int (4 : Int32)), .val (.int (own_ch u3))] [(.int (5 : Int32)), (.int (4 : Int32))])
          refine Go.of (fun _ kz => XS.icmpNo X12.here hx rfl (hb hby d8_7) rfl (tlt (by decide : (4 : Int32) < (5 : Int32))).2.1 kz) ?_
          refine Go.of (fun _ kz => XS.aloadN X12.here hx rfl (hb hby d8_10) rfl rfl (XS.iloadN X12.here hx rfl (hb hby d8_11) rfl kz)) ?_
          obtain ⟨cl13a, Ar13a, q13a, S13a, N13a, H13a, G13a⟩ := id f12_Arv_cs
          have hin13 := inb_of S13a (j := (4 : Int32)) ⟨by decide, by decide⟩
          refine Go.of (fun _ kz => X12.caload hx (j := (4 : Int32)) (v := (.int (own_ch u4))) (by rw [e12]; exact Ar13a.1) (State.isArrayOf_alike hZ.alike Ar13a.2.1) Ar13a.2.2 hin13 (H13a.at hin13 rfl) (g := (mkF m 12 #[.val (.ref cs), .val (.int (4 : Int32)), .val (.ref bs), .val (.int (4 : Int32)), .val (.int (5 : Int32)), .val (.int (4 : Int32)), .val (.int (own_ch u3))] [(.int (4 : Int32)), (.ref cs)])) rfl rfl (hb hby d8_12) _ kz) ?_
          refine Go.of (fun _ kz => XS.istore X12.here hx rfl (hb hby d8_13) rfl (l' := #[.val (.ref cs), .val (.int (4 : Int32)), .val (.ref bs), .val (.int (4 : Int32)), .val (.int (5 : Int32)), .val (.int (4 : Int32)), .val (.int (own_ch u4))]) rfl (XS.iload X12.here hx rfl (hb hby d8_15) rfl (XS.sipush X12.here hx rfl (hb hby d8_17) kz))) ?_
          show Go _ _ _ _ _ T12 (mkF m 20 #[.val (.ref cs), .val (.int (4 : Int32)), .val (.ref bs), .val (.int (4 : Int32)), .val (.int (5 : Int32)), .val (.int (4 : Int32)), .val (.int (own_ch u4))] [(.int (255 : Int32)), (.int (own_ch u4))])
          by_cases hc20_14 : (255 : Int32) < (own_ch u4)
          · refine Go.of (fun _ kz => XS.icmpNo X12.here hx rfl (hb hby d8_20) rfl (tlt hc20_14).2.2.2 kz) ?_
            refine Go.of (fun _ kz => XS.iload X12.here hx rfl (hb hby d8_23) rfl kz) ?_
            refine Go.ret X12 (v := some (.int (4 : Int32))) (fun h => by rw [Bd.returns] at h; cases h) Bd.notSynchronized (fun fs hr => own_retI X12 hx Bd.returns (hb hby d8_25) hr) (by decide) (by decide) ?_
            show Q_rm_ci_5 Z _ _ _ _ _ _ _ _ _ h0 n0 _ T12.heap _
            rw [e12]
            exact ⟨_, rfl, N12, Kk12, Or.inr (Or.inr (Or.inr (Or.inr (Or.inr (⟨rfl, hc20_2, hc20_5, hc20_8, hc20_11, hc20_14⟩)))))⟩
          · refine Go.of (fun _ kz => XS.icmpYes X12.here hx rfl (pc0 := 20) (pc' := 26) rfl (hb hby d8_20) rfl (flt hc20_14).2.2.2 (by decide) (by decide) kz) ?_
            refine Go.of (fun _ kz => XS.aloadN X12.here hx rfl (hb hby d8_26) rfl rfl (XS.iloadN X12.here hx rfl (hb hby d8_27) rfl (XS.iload X12.here hx rfl (hb hby d8_28) rfl (XS.i2b X12.here hx rfl (hb hby d8_30) rfl kz)))) ?_
            obtain ⟨cl15a, Ar15a, q15a, S15a, N15a, H15a, G15a⟩ := id V12_bs
            have hin15 := inb_of S15a (j := (4 : Int32)) ⟨by decide, by decide⟩
            obtain ⟨T15, h15, X15, e15, W15, st15⟩ := stB X12 hx hZ e12 Ar15a (j := (4 : Int32)) hin15 (g := (mkF m 31 #[.val (.ref cs), .val (.int (4 : Int32)), .val (.ref bs), .val (.int (4 : Int32)), .val (.int (5 : Int32)), .val (.int (4 : Int32)), .val (.int (own_ch u4))] [(.int ((own_lo u4).toInt32)), (.int (4 : Int32)), (.ref bs)])) rfl rfl (hb hby d8_31)
            rw [own_narb (own_lo u4)] at W15
            have V15_bs : Arv Z h15 bs kb .byte (5 : Int32) [(.int ((own_lo u0).toInt32)), (.int ((own_lo u1).toInt32)), (.int ((own_lo u2).toInt32)), (.int ((own_lo u3).toInt32)), (.int ((own_lo u4).toInt32))] (.int (0 : Int32)) := Arv.set Ar15a q15a S15a N15a H15a G15a (own_fitb _) W15 4 rfl (Nat.le_of_ble_eq_true rfl)
            have f15_Arv_cs := f12_Arv_cs.other W15 hne
            have O15 := O12.wr W15 ge_bs
            have Kk15 := Kk12.wr W15 (Or.inl (List.mem_singleton.mpr rfl))
            have N15 := Fr.snoc X15 N12 ge_bs
            refine Go.of (fun _ kz => st15 _ kz) ?_
            refine Go.of (fun _ kz => XS.iinc X15.here hx rfl (hb hby d8_32) rfl (l' := #[.val (.ref cs), .val (.int (5 : Int32)), .val (.ref bs), .val (.int (4 : Int32)), .val (.int (5 : Int32)), .val (.int (4 : Int32)), .val (.int (own_ch u4))]) rfl (XS.iinc X15.here hx rfl (hb hby d8_35) rfl (l' := #[.val (.ref cs), .val (.int (5 : Int32)), .val (.ref bs), .val (.int (5 : Int32)), .val (.int (5 : Int32)), .val (.int (4 : Int32)), .val (.int (own_ch u4))]) rfl (XS.iinc X15.here hx rfl (hb hby d8_38) rfl (l' := #[.val (.ref cs), .val (.int (5 : Int32)), .val (.ref bs), .val (.int (5 : Int32)), .val (.int (5 : Int32)), .val (.int (5 : Int32)), .val (.int (own_ch u4))]) rfl (XS.goto X15.here hx rfl (pc0 := 41) (pc' := 3) rfl (hb hby d8_41) (by decide) (by decide) (XS.iload X15.here hx rfl (hb hby d8_3) rfl (XS.iload X15.here hx rfl (hb hby d8_5) rfl kz)))))) ?_
            show Go _ _ _ _ _ T15 (mkF m 7 #[.val (.ref cs), .val (.int (5 : Int32)), .val (.ref bs), .val (.int (5 : Int32)), .val (.int (5 : Int32)), .val (.int (5 : Int32)), .val (.int (own_ch u4))] [(.int (5 : Int32)), (.int (5 : Int32))])
            refine Go.of (fun _ kz => XS.icmpYes X15.here hx rfl (pc0 := 7) (pc' := 44) rfl (hb hby d8_7) rfl (flt (by decide : ¬ (5 : Int32) < (5 : Int32))).2.1 (by decide) (by decide) kz) ?_
            refine Go.of (fun _ kz => XS.iload X15.here hx rfl (hb hby d8_44) rfl kz) ?_
            refine Go.ret X15 (v := some (.int (5 : Int32))) (fun h => by rw [Bd.returns] at h; cases h) Bd.notSynchronized (fun fs hr => own_retI X15 hx Bd.returns (hb hby d8_46) hr) (by decide) (by decide) ?_
            show Q_rm_ci_5 Z _ _ _ _ _ _ _ _ _ h0 n0 _ T15.heap _
            rw [e15]
            exact ⟨_, rfl, N15, Kk15, Or.inl ⟨rfl, ⟨hc20_2, hc20_5, hc20_8, hc20_11, hc20_14⟩, V15_bs⟩⟩

theorem ef_rm_nbl_5 (m : MethodId) (x0 : Int32) : entryFrame m #[(.int x0)] 1 = mkF m 0 #[.val (.int x0)] [] := by first | (simp [entryFrame, mkF, argsToLocals, Value.category]; done) | rfl
def Q_rm_nbl_5 (Z : State)  (h0 : Heap) (n0 : Nat) (v : Option Value) (h : Heap) (L : List Loc) : Prop := v = some (.int (10 : Int32)) ∧ Fr n0 L ∧ h = h0
set_option maxRecDepth 65536 in
set_option maxHeartbeats 40000000 in
theorem rm_nbl_5 (l : Launch) (Z : State) (a0 : Array Value) (hw : ∀ d ∈ tables_1, d.before a0 Z = true) (wz : List Jvm.Cond)  (h0 : Heap) (n0 : Nat) (O0 : Old Z n0 h0) :
    MetFree l y_14 (head1 (Jvm.Cond.code y_14 jdk_52_method_3_code 1 (some .int) :: wz) ({ frames := 0, cells := 0, slots := 0, locals := 0 } : Room)) (fun aZ UZ => aZ = #[(.int (5 : Int32))] ∧ Z.Warmed39 UZ.vm ∧ UZ.heap = h0) (fun _ _ _ _ _ => True) (fun _ UZ oZ UY => ∃ vZ LZ, oZ = .returned vZ ∧ Q_rm_nbl_5 Z  h0 n0 vZ UY.heap LZ ∧ FrameEnd UZ oZ UY LZ ({ frames := 0, cells := 0, slots := 0, locals := 0 } : Room).cells ({ frames := 0, cells := 0, slots := 0, locals := 0 } : Room).slots) := by
  refine MetFree.of_bodySF (plainFor_of_name pn_19) hisR ?_
  intro p e s m args below meth c s₁ Bd hml0 hP hK
  obtain ⟨rfl, hZ, hh⟩ := hP
  have hx := Bd.exec
  have hby := Bd.bytes
  have hml : c.maxLocals = 1 := hml0
  have hown : s.vm.findClass "java/lang/StringUTF16" = some m.cls := findClass_of_methodNamed Bd.named
  have hnm := (name_of_methodNamed Bd.named Bd.method).1
  have X0 : Stand p l e ({ frames := 0, cells := 0, slots := 0, locals := 0 } : Room) s m #[(.int (5 : Int32))] below meth c s₁ [] 0 0 := Stand.of_body Bd
  have e0 : s₁.heap = h0 := by rw [← hh, Bd.state]; rfl
  have N0 := Fr.nil n0
  have Z0 : n0 ≤ h0.size := O0.1 ▸ O0.2.1
  have K0 := Keep.refl h0 []
  show Go p e below (fun oW tW LW => FrameEnd s oW tW LW ({ frames := 0, cells := 0, slots := 0, locals := 0 } : Room).cells ({ frames := 0, cells := 0, slots := 0, locals := 0 } : Room).slots) (Q_rm_nbl_5 Z  h0 n0) s₁ (entryFrame m #[(.int (5 : Int32))] 1)
  refine Go.of (fun t kz => castTop (ef_rm_nbl_5 m (5 : Int32)) kz) ?_
  show Go _ _ _ _ _ s₁ (mkF m 0 #[.val (.int (5 : Int32))] [])
  refine Go.of (fun _ kz => XS.iloadN X0.here hx rfl (hb hby d19_0) rfl kz) ?_
  refine Go.of (fun _ kz => XS.ifYes X0.here hx rfl (pc0 := 1) (pc' := 12) rfl (hb hby d19_1) rfl ((if0 _ _).trans (flt (by decide : ¬ (5 : Int32) < (0 : Int32))).2.1) (by decide) (by decide) kz) ?_
  refine Go.of (fun _ kz => XS.iloadN X0.here hx rfl (hb hby d19_12) rfl (X0.ldcInt hx hown (mvT hZ (w85 hw)) (g := (mkF m 13 #[.val (.int (5 : Int32))] [(.int (5 : Int32))])) rfl (hb hby d19_13) _ kz)) ?_
  refine Go.of (fun _ kz => XS.icmpYes X0.here hx rfl (pc0 := 15) (pc' := 55) rfl (hb hby d19_15) rfl (tlt (by decide : (5 : Int32) < (1073741823 : Int32))).1 (by decide) (by decide) kz) ?_
  refine Go.of (fun _ kz => XS.iloadN X0.here hx rfl (hb hby d19_55) rfl (XS.iconst X0.here hx rfl (hb hby d19_56) (XS.ishl X0.here hx rfl (hb hby d19_57) rfl kz))) ?_
  show Go _ _ _ _ _ s₁ (mkF m 58 #[.val (.int (5 : Int32))] [(.int ((5 : Int32) <<< ((1 : Int32) &&& 31)))])
  rw [(by decide : ((5 : Int32) <<< ((1 : Int32) &&& 31)) = (10 : Int32))]
  show Go _ _ _ _ _ s₁ (mkF m 58 #[.val (.int (5 : Int32))] [(.int (10 : Int32))])
  refine Go.ret X0 (v := some (.int (10 : Int32))) (fun h => by rw [Bd.returns] at h; cases h) Bd.notSynchronized (fun fs hr => own_retI X0 hx Bd.returns (hb hby d19_58) hr) (by decide) (by decide) ?_
  show Q_rm_nbl_5 Z  h0 n0 _ s₁.heap _
  rw [e0]
  exact ⟨rfl, N0, rfl⟩

theorem ef_rm_nbf_5 (m : MethodId) (x0 : Int32) : entryFrame m #[(.int x0)] 1 = mkF m 0 #[.val (.int x0)] [] := by first | (simp [entryFrame, mkF, argsToLocals, Value.category]; done) | rfl
def Q_rm_nbf_5 (Z : State)  (h0 : Heap) (n0 : Nat) (v : Option Value) (h : Heap) (L : List Loc) : Prop := ∃ (b : Addr) (kb : ClassId), v = some (.ref b) ∧ Fr n0 L ∧ Keep h0 h [] ∧ h0.size ≤ b ∧ Arv Z h b kb .byte (10 : Int32) [(.int (0 : Int32)), (.int (0 : Int32)), (.int (0 : Int32)), (.int (0 : Int32)), (.int (0 : Int32)), (.int (0 : Int32)), (.int (0 : Int32)), (.int (0 : Int32)), (.int (0 : Int32)), (.int (0 : Int32))] (.int (0 : Int32))
set_option maxRecDepth 65536 in
set_option maxHeartbeats 40000000 in
theorem rm_nbf_5 (l : Launch) (Z : State) (a0 : Array Value) (hw : ∀ d ∈ tables_1, d.before a0 Z = true) (wz : List Jvm.Cond)  (h0 : Heap) (n0 : Nat) (O0 : Old Z n0 h0) :
    MetFree l y_15 (head1 (Jvm.Cond.code y_15 jdk_52_method_2_code 1 (some (.array .byte)) :: wz) ({ frames := 1, cells := 1, slots := 10, locals := 12 } : Room)) (fun aZ UZ => aZ = #[(.int (5 : Int32))] ∧ Z.Warmed39 UZ.vm ∧ UZ.heap = h0) (fun _ _ _ _ _ => True) (fun _ UZ oZ UY => ∃ vZ LZ, oZ = .returned vZ ∧ Q_rm_nbf_5 Z  h0 n0 vZ UY.heap LZ ∧ FrameEnd UZ oZ UY LZ ({ frames := 1, cells := 1, slots := 10, locals := 12 } : Room).cells ({ frames := 1, cells := 1, slots := 10, locals := 12 } : Room).slots) := by
  refine MetFree.of_bodySF (plainFor_of_name pn_18) hisR ?_
  intro p e s m args below meth c s₁ Bd hml0 hP hK
  obtain ⟨rfl, hZ, hh⟩ := hP
  have hx := Bd.exec
  have hby := Bd.bytes
  have hml : c.maxLocals = 1 := hml0
  have hown : s.vm.findClass "java/lang/StringUTF16" = some m.cls := findClass_of_methodNamed Bd.named
  have hnm := (name_of_methodNamed Bd.named Bd.method).1
  have X0 : Stand p l e ({ frames := 1, cells := 1, slots := 10, locals := 12 } : Room) s m #[(.int (5 : Int32))] below meth c s₁ [] 0 0 := Stand.of_body Bd
  have e0 : s₁.heap = h0 := by rw [← hh, Bd.state]; rfl
  have N0 := Fr.nil n0
  have Z0 : n0 ≤ h0.size := O0.1 ▸ O0.2.1
  have K0 := Keep.refl h0 []
  show Go p e below (fun oW tW LW => FrameEnd s oW tW LW ({ frames := 1, cells := 1, slots := 10, locals := 12 } : Room).cells ({ frames := 1, cells := 1, slots := 10, locals := 12 } : Room).slots) (Q_rm_nbf_5 Z  h0 n0) s₁ (entryFrame m #[(.int (5 : Int32))] 1)
  refine Go.of (fun t kz => castTop (ef_rm_nbf_5 m (5 : Int32)) kz) ?_
  show Go _ _ _ _ _ s₁ (mkF m 0 #[.val (.int (5 : Int32))] [])
  refine Go.of (fun _ kz => XS.iloadN X0.here hx rfl (hb hby d18_0) rfl kz) ?_
  show Go _ _ _ _ _ s₁ (mkF m 1 #[.val (.int (5 : Int32))] [(.int (5 : Int32))])
  refine Go.callS X0 hx hZ hown (y := y_14) (w82 hw) (w83 hw) (w40 hw) (w84 hw) (by decide) (rm_nbl_5 l Z a0 hw [] h0 n0 O0) e0 0 (by decide) (by decide) (by rw [hml]; rfl) (argsL := [(.int (5 : Int32))]) (rest := []) (lenOf pd_7 rfl) rfl rfl (Nat.le_of_eq rfl) (hb hby d18_1) (c2 := 0) (s2 := 0) rfl rfl (by decide) (by decide) fun v1 T1 Lc1 L1 X1 l1 hQ1 => ?_
  obtain ⟨rfl, N1q, e1⟩ := hQ1
  have N1 : Fr n0 L1 := by rw [l1]; exact Fr.app N0 N1q
  obtain ⟨T2, h2, k2, X2, e2, E2, A2, st2⟩ := newP (aty := .byte) X1 hx hZ (w21 hw) e1 (g := (mkF m 4 #[.val (.int (5 : Int32))] [(.int (10 : Int32))])) rfl (hb hby d18_4) rfl (by decide) (cap := 10) (by decide) (by decide) (by decide) (by decide)
  obtain ⟨b2, g2⟩ : ∃ z, z = h0.size := ⟨_, rfl⟩
  rw [← g2] at A2 st2
  have ge_b2 : n0 ≤ b2 := Nat.le_trans (O0.1 ▸ O0.2.1) (Nat.le_of_eq g2.symm)
  have hsz_b2 := Nat.le_of_eq g2.symm
  have sz_b2 : h0.size ≤ b2 := Nat.le_trans (Keep.refl h0 []).1 (Nat.le_of_eq g2.symm)
  have O2 := O0.ext E2
  have Kk2 := (Keep.refl h0 []).ext E2
  have V_b2 : Arv Z h2 b2 k2 .byte (10 : Int32) [(.int (0 : Int32)), (.int (0 : Int32)), (.int (0 : Int32)), (.int (0 : Int32)), (.int (0 : Int32)), (.int (0 : Int32)), (.int (0 : Int32)), (.int (0 : Int32)), (.int (0 : Int32)), (.int (0 : Int32))] (.int (0 : Int32)) := (Arv.new A2 (by decide)).pad (pad_rep [] (.int (0 : Int32)) 10)
  refine Go.of (fun _ kz => st2 _ kz) ?_
  refine Go.ret X2 (v := some (.ref b2)) (fun h => by rw [Bd.returns] at h; cases h) Bd.notSynchronized (fun fs hr => retOut X2 hx Bd.returns rfl (Or.inr (Or.inr (Or.inr (Or.inr ⟨rfl, rfl, rfl⟩)))) (hb hby d18_6) hr) (by decide) (by decide) ?_
  show Q_rm_nbf_5 Z  h0 n0 _ T2.heap _
  rw [e2]
  exact ⟨_, _, rfl, N1, Kk2, sz_b2, V_b2⟩

theorem ef_rm_tob_5 (m : MethodId) (x0 : Addr) (x1 : Int32) (x2 : Int32) : entryFrame m #[(.ref x0), (.int x1), (.int x2)] 5 = mkF m 0 #[.val (.ref x0), .val (.int x1), .val (.int x2), .unset, .unset] [] := by first | (simp [entryFrame, mkF, argsToLocals, Value.category]; done) | rfl
def Q_rm_tob_5 (Z : State) (cs : Addr) (kc : ClassId) (u0 : UInt16) (u1 : UInt16) (u2 : UInt16) (u3 : UInt16) (u4 : UInt16) (h0 : Heap) (n0 : Nat) (v : Option Value) (h : Heap) (L : List Loc) : Prop := ∃ (b : Addr) (kb : ClassId), v = some (.ref b) ∧ Fr n0 L ∧ Keep h0 h [] ∧ h0.size ≤ b ∧ Arv Z h b kb .byte (10 : Int32) [(.int ((own_lo0 u0).toInt32)), (.int ((own_hi8 u0).toInt32)), (.int ((own_lo0 u1).toInt32)), (.int ((own_hi8 u1).toInt32)), (.int ((own_lo0 u2).toInt32)), (.int ((own_hi8 u2).toInt32)), (.int ((own_lo0 u3).toInt32)), (.int ((own_hi8 u3).toInt32)), (.int ((own_lo0 u4).toInt32)), (.int ((own_hi8 u4).toInt32))] (.int (0 : Int32))
set_option maxRecDepth 65536 in
set_option maxHeartbeats 40000000 in
theorem rm_tob_5 (l : Launch) (Z : State) (a0 : Array Value) (hw : ∀ d ∈ tables_1, d.before a0 Z = true) (wz : List Jvm.Cond) (cs : Addr) (kc : ClassId) (u0 : UInt16) (u1 : UInt16) (u2 : UInt16) (u3 : UInt16) (u4 : UInt16) (h0 : Heap) (n0 : Nat) (O0 : Old Z n0 h0) (Vc : Arv Z h0 cs kc .char (5 : Int32) [(.int (own_ch u0)), (.int (own_ch u1)), (.int (own_ch u2)), (.int (own_ch u3)), (.int (own_ch u4))] (.int (0 : Int32))) (Sas : Sta Z Z.heap "java/lang/StringUTF16" "$assertionsDisabled" "Z" (.int (1 : Int32))) (Shi : Sta Z Z.heap "java/lang/StringUTF16" "HI_BYTE_SHIFT" "I" (.int (0 : Int32))) (Slo : Sta Z Z.heap "java/lang/StringUTF16" "LO_BYTE_SHIFT" "I" (.int (8 : Int32))) :
    MetFree l y_16 (head1 (Jvm.Cond.code y_16 jdk_52_method_14_code 5 (some (.array .byte)) :: wz) ({ frames := 2, cells := 1, slots := 10, locals := 24 } : Room)) (fun aZ UZ => aZ = #[(.ref cs), (.int (0 : Int32)), (.int (5 : Int32))] ∧ Z.Warmed39 UZ.vm ∧ UZ.heap = h0) (fun _ _ _ _ _ => True) (fun _ UZ oZ UY => ∃ vZ LZ, oZ = .returned vZ ∧ Q_rm_tob_5 Z cs kc u0 u1 u2 u3 u4 h0 n0 vZ UY.heap LZ ∧ FrameEnd UZ oZ UY LZ ({ frames := 2, cells := 1, slots := 10, locals := 24 } : Room).cells ({ frames := 2, cells := 1, slots := 10, locals := 24 } : Room).slots) := by
  refine MetFree.of_bodySF (plainFor_of_name pn_17) hisR ?_
  intro p e s m args below meth c s₁ Bd hml0 hP hK
  obtain ⟨rfl, hZ, hh⟩ := hP
  have hx := Bd.exec
  have hby := Bd.bytes
  have hml : c.maxLocals = 5 := hml0
  have hown : s.vm.findClass "java/lang/StringUTF16" = some m.cls := findClass_of_methodNamed Bd.named
  have hnm := (name_of_methodNamed Bd.named Bd.method).1
  have X0 : Stand p l e ({ frames := 2, cells := 1, slots := 10, locals := 24 } : Room) s m #[(.ref cs), (.int (0 : Int32)), (.int (5 : Int32))] below meth c s₁ [] 0 0 := Stand.of_body Bd
  have e0 : s₁.heap = h0 := by rw [← hh, Bd.state]; rfl
  have N0 := Fr.nil n0
  have Z0 : n0 ≤ h0.size := O0.1 ▸ O0.2.1
  have K0 := Keep.refl h0 []
  show Go p e below (fun oW tW LW => FrameEnd s oW tW LW ({ frames := 2, cells := 1, slots := 10, locals := 24 } : Room).cells ({ frames := 2, cells := 1, slots := 10, locals := 24 } : Room).slots) (Q_rm_tob_5 Z cs kc u0 u1 u2 u3 u4 h0 n0) s₁ (entryFrame m #[(.ref cs), (.int (0 : Int32)), (.int (5 : Int32))] 5)
  refine Go.of (fun t kz => castTop (ef_rm_tob_5 m cs (0 : Int32) (5 : Int32)) kz) ?_
  show Go _ _ _ _ _ s₁ (mkF m 0 #[.val (.ref cs), .val (.int (0 : Int32)), .val (.int (5 : Int32)), .unset, .unset] [])
  refine Go.of (fun _ kz => XS.iloadN X0.here hx rfl (hb hby d17_0) rfl kz) ?_
  show Go _ _ _ _ _ s₁ (mkF m 1 #[.val (.ref cs), .val (.int (0 : Int32)), .val (.int (5 : Int32)), .unset, .unset] [(.int (5 : Int32))])
  refine Go.callS X0 hx hZ hown (y := y_15) (w79 hw) (w80 hw) (w40 hw) (w81 hw) (by decide) (rm_nbf_5 l Z a0 hw [] h0 n0 O0) e0 0 (by decide) (by decide) (by rw [hml]; rfl) (argsL := [(.int (5 : Int32))]) (rest := []) (lenOf pd_8 rfl) rfl rfl (Nat.le_of_eq rfl) (hb hby d17_1) (c2 := 1) (s2 := 10) rfl rfl (by decide) (by decide) fun v1 T1 Lc1 L1 X1 l1 hQ1 => ?_
  obtain ⟨b1, kb1, rfl, N1q, K1, hsz1, V1⟩ := hQ1
  have N1 : Fr n0 L1 := by rw [l1]; exact Fr.app N0 N1q
  have ge_b1 : n0 ≤ b1 := Nat.le_trans (O0.1 ▸ O0.2.1) hsz1
  have sz_b1 : h0.size ≤ b1 := Nat.le_trans (Keep.refl h0 []).1 hsz1
  have ne_cs_b1 : cs ≠ b1 := Nat.ne_of_lt (Nat.lt_of_lt_of_le Vc.lt hsz1)
  have f1_Arv_cs := Vc.keep K1 nin0
  have O1 := O0.keep K1 all0
  have Kk1 := (Keep.refl h0 []).trans K1 all0
  refine Go.of (fun _ kz => XS.astoreN X1.here hx rfl (hb hby d17_4) rfl rfl (l' := #[.val (.ref cs), .val (.int (0 : Int32)), .val (.int (5 : Int32)), .val (.ref b1), .unset]) rfl (XS.iconst X1.here hx rfl (hb hby d17_5) (XS.istore X1.here hx rfl (hb hby d17_6) rfl (l' := #[.val (.ref cs), .val (.int (0 : Int32)), .val (.int (5 : Int32)), .val (.ref b1), .val (.int (0 : Int32))]) rfl (XS.iload X1.here hx rfl (hb hby d17_8) rfl (XS.iloadN X1.here hx rfl (hb hby d17_10) rfl kz))))) ?_
  refine Go.of (fun _ kz => XS.icmpNo X1.here hx rfl (hb hby d17_11) rfl (tlt (by decide : (0 : Int32) < (5 : Int32))).2.1 kz) ?_
  show Go _ _ _ _ _ T1 (mkF m 14 #[.val (.ref cs), .val (.int (0 : Int32)), .val (.int (5 : Int32)), .val (.ref b1), .val (.int (0 : Int32))] [])
  refine Go.of (fun _ kz => XS.aloadN X1.here hx rfl (hb hby d17_14) rfl rfl (XS.iload X1.here hx rfl (hb hby d17_15) rfl (XS.aloadN X1.here hx rfl (hb hby d17_17) rfl rfl (XS.iloadN X1.here hx rfl (hb hby d17_18) rfl kz)))) ?_
  obtain ⟨cl2a, Ar2a, q2a, S2a, N2a, H2a, G2a⟩ := id f1_Arv_cs
  have hin2 := inb_of S2a (j := (0 : Int32)) ⟨by decide, by decide⟩
  refine Go.of (fun _ kz => X1.caload hx (j := (0 : Int32)) (v := (.int (own_ch u0))) Ar2a.1 (State.isArrayOf_alike hZ.alike Ar2a.2.1) Ar2a.2.2 hin2 (H2a.at hin2 rfl) (g := (mkF m 19 #[.val (.ref cs), .val (.int (0 : Int32)), .val (.int (5 : Int32)), .val (.ref b1), .val (.int (0 : Int32))] [(.int (0 : Int32)), (.ref cs), (.int (0 : Int32)), (.ref b1)])) rfl rfl (hb hby d17_19) _ kz) ?_
  show Go _ _ _ _ _ T1 (mkF m 20 #[.val (.ref cs), .val (.int (0 : Int32)), .val (.int (5 : Int32)), .val (.ref b1), .val (.int (0 : Int32))] [(.int (own_ch u0)), (.int (0 : Int32)), (.ref b1)])
  refine Go.callS X1 hx hZ hown (y := y_12) (w86 hw) (w87 hw) (w40 hw) (w88 hw) (by decide) (rm_put l Z a0 hw [] b1 (0 : Int32) (own_ch u0) kb1 (10 : Int32) [(.int (0 : Int32)), (.int (0 : Int32)), (.int (0 : Int32)), (.int (0 : Int32)), (.int (0 : Int32)), (.int (0 : Int32)), (.int (0 : Int32)), (.int (0 : Int32)), (.int (0 : Int32)), (.int (0 : Int32))] (own_lo0 u0) (own_hi8 u0) 0 T1.heap n0 O1 V1 Sas Shi Slo ge_b1 ⟨by decide, by decide⟩ ⟨by decide, by decide⟩ (by decide) (by decide) (Nat.le_of_ble_eq_true rfl) (Nat.le_of_ble_eq_true rfl) rfl rfl) rfl 0 (by decide) (by decide) (by rw [hml]; rfl) (argsL := [(.ref b1), (.int (0 : Int32)), (.int (own_ch u0))]) (rest := []) (lenOf pd_9 rfl) rfl rfl (Nat.le_of_eq rfl) (hb hby d17_20) (c2 := 1) (s2 := 10) rfl rfl (by decide) (by decide) fun v3 T3 Lc3 L3 X3 l3 hQ3 => ?_
  obtain ⟨rfl, N3q, K3, V3⟩ := hQ3
  have N3 : Fr n0 L3 := by rw [l3]; exact Fr.app N1 N3q
  have f3_Arv_cs := f1_Arv_cs.keep K3 (ninS ne_cs_b1 nin0)
  have O3 := O1.keep K3 (allS ge_b1 all0)
  have Kk3 := Kk1.trans K3 (allS (Or.inr sz_b1) all0)
  have V3c : Arv Z T3.heap b1 kb1 .byte (10 : Int32) [(.int ((own_lo0 u0).toInt32)), (.int ((own_hi8 u0).toInt32)), (.int (0 : Int32)), (.int (0 : Int32)), (.int (0 : Int32)), (.int (0 : Int32)), (.int (0 : Int32)), (.int (0 : Int32)), (.int (0 : Int32)), (.int (0 : Int32))] (.int (0 : Int32)) := V3
  refine Go.of (fun _ kz => XS.iinc X3.here hx rfl (hb hby d17_23) rfl (l' := #[.val (.ref cs), .val (.int (1 : Int32)), .val (.int (5 : Int32)), .val (.ref b1), .val (.int (0 : Int32))]) rfl (XS.iinc X3.here hx rfl (hb hby d17_26) rfl (l' := #[.val (.ref cs), .val (.int (1 : Int32)), .val (.int (5 : Int32)), .val (.ref b1), .val (.int (1 : Int32))]) rfl (XS.goto X3.here hx rfl (pc0 := 29) (pc' := 8) rfl (hb hby d17_29) (by decide) (by decide) (XS.iload X3.here hx rfl (hb hby d17_8) rfl (XS.iloadN X3.here hx rfl (hb hby d17_10) rfl kz))))) ?_
  refine Go.of (fun _ kz => XS.icmpNo X3.here hx rfl (hb hby d17_11) rfl (tlt (by decide : (1 : Int32) < (5 : Int32))).2.1 kz) ?_
  show Go _ _ _ _ _ T3 (mkF m 14 #[.val (.ref cs), .val (.int (1 : Int32)), .val (.int (5 : Int32)), .val (.ref b1), .val (.int (1 : Int32))] [])
  refine Go.of (fun _ kz => XS.aloadN X3.here hx rfl (hb hby d17_14) rfl rfl (XS.iload X3.here hx rfl (hb hby d17_15) rfl (XS.aloadN X3.here hx rfl (hb hby d17_17) rfl rfl (XS.iloadN X3.here hx rfl (hb hby d17_18) rfl kz)))) ?_
  obtain ⟨cl4a, Ar4a, q4a, S4a, N4a, H4a, G4a⟩ := id f3_Arv_cs
  have hin4 := inb_of S4a (j := (1 : Int32)) ⟨by decide, by decide⟩
  refine Go.of (fun _ kz => X3.caload hx (j := (1 : Int32)) (v := (.int (own_ch u1))) Ar4a.1 (State.isArrayOf_alike hZ.alike Ar4a.2.1) Ar4a.2.2 hin4 (H4a.at hin4 rfl) (g := (mkF m 19 #[.val (.ref cs), .val (.int (1 : Int32)), .val (.int (5 : Int32)), .val (.ref b1), .val (.int (1 : Int32))] [(.int (1 : Int32)), (.ref cs), (.int (1 : Int32)), (.ref b1)])) rfl rfl (hb hby d17_19) _ kz) ?_
  show Go _ _ _ _ _ T3 (mkF m 20 #[.val (.ref cs), .val (.int (1 : Int32)), .val (.int (5 : Int32)), .val (.ref b1), .val (.int (1 : Int32))] [(.int (own_ch u1)), (.int (1 : Int32)), (.ref b1)])
  refine Go.callS X3 hx hZ hown (y := y_12) (w86 hw) (w87 hw) (w40 hw) (w88 hw) (by decide) (rm_put l Z a0 hw [] b1 (1 : Int32) (own_ch u1) kb1 (10 : Int32) [(.int ((own_lo0 u0).toInt32)), (.int ((own_hi8 u0).toInt32)), (.int (0 : Int32)), (.int (0 : Int32)), (.int (0 : Int32)), (.int (0 : Int32)), (.int (0 : Int32)), (.int (0 : Int32)), (.int (0 : Int32)), (.int (0 : Int32))] (own_lo0 u1) (own_hi8 u1) 2 T3.heap n0 O3 V3c Sas Shi Slo ge_b1 ⟨by decide, by decide⟩ ⟨by decide, by decide⟩ (by decide) (by decide) (Nat.le_of_ble_eq_true rfl) (Nat.le_of_ble_eq_true rfl) rfl rfl) rfl 0 (by decide) (by decide) (by rw [hml]; rfl) (argsL := [(.ref b1), (.int (1 : Int32)), (.int (own_ch u1))]) (rest := []) (lenOf pd_9 rfl) rfl rfl (Nat.le_of_eq rfl) (hb hby d17_20) (c2 := 1) (s2 := 10) rfl rfl (by decide) (by decide) fun v5 T5 Lc5 L5 X5 l5 hQ5 => ?_
  obtain ⟨rfl, N5q, K5, V5⟩ := hQ5
  have N5 : Fr n0 L5 := by rw [l5]; exact Fr.app N3 N5q
  have f5_Arv_cs := f3_Arv_cs.keep K5 (ninS ne_cs_b1 nin0)
  have O5 := O3.keep K5 (allS ge_b1 all0)
  have Kk5 := Kk3.trans K5 (allS (Or.inr sz_b1) all0)
  have V5c : Arv Z T5.heap b1 kb1 .byte (10 : Int32) [(.int ((own_lo0 u0).toInt32)), (.int ((own_hi8 u0).toInt32)), (.int ((own_lo0 u1).toInt32)), (.int ((own_hi8 u1).toInt32)), (.int (0 : Int32)), (.int (0 : Int32)), (.int (0 : Int32)), (.int (0 : Int32)), (.int (0 : Int32)), (.int (0 : Int32))] (.int (0 : Int32)) := V5
  refine Go.of (fun _ kz => XS.iinc X5.here hx rfl (hb hby d17_23) rfl (l' := #[.val (.ref cs), .val (.int (2 : Int32)), .val (.int (5 : Int32)), .val (.ref b1), .val (.int (1 : Int32))]) rfl (XS.iinc X5.here hx rfl (hb hby d17_26) rfl (l' := #[.val (.ref cs), .val (.int (2 : Int32)), .val (.int (5 : Int32)), .val (.ref b1), .val (.int (2 : Int32))]) rfl (XS.goto X5.here hx rfl (pc0 := 29) (pc' := 8) rfl (hb hby d17_29) (by decide) (by decide) (XS.iload X5.here hx rfl (hb hby d17_8) rfl (XS.iloadN X5.here hx rfl (hb hby d17_10) rfl kz))))) ?_
  refine Go.of (fun _ kz => XS.icmpNo X5.here hx rfl (hb hby d17_11) rfl (tlt (by decide : (2 : Int32) < (5 : Int32))).2.1 kz) ?_
  show Go _ _ _ _ _ T5 (mkF m 14 #[.val (.ref cs), .val (.int (2 : Int32)), .val (.int (5 : Int32)), .val (.ref b1), .val (.int (2 : Int32))] [])
  refine Go.of (fun _ kz => XS.aloadN X5.here hx rfl (hb hby d17_14) rfl rfl (XS.iload X5.here hx rfl (hb hby d17_15) rfl (XS.aloadN X5.here hx rfl (hb hby d17_17) rfl rfl (XS.iloadN X5.here hx rfl (hb hby d17_18) rfl kz)))) ?_
  obtain ⟨cl6a, Ar6a, q6a, S6a, N6a, H6a, G6a⟩ := id f5_Arv_cs
  have hin6 := inb_of S6a (j := (2 : Int32)) ⟨by decide, by decide⟩
  refine Go.of (fun _ kz => X5.caload hx (j := (2 : Int32)) (v := (.int (own_ch u2))) Ar6a.1 (State.isArrayOf_alike hZ.alike Ar6a.2.1) Ar6a.2.2 hin6 (H6a.at hin6 rfl) (g := (mkF m 19 #[.val (.ref cs), .val (.int (2 : Int32)), .val (.int (5 : Int32)), .val (.ref b1), .val (.int (2 : Int32))] [(.int (2 : Int32)), (.ref cs), (.int (2 : Int32)), (.ref b1)])) rfl rfl (hb hby d17_19) _ kz) ?_
  show Go _ _ _ _ _ T5 (mkF m 20 #[.val (.ref cs), .val (.int (2 : Int32)), .val (.int (5 : Int32)), .val (.ref b1), .val (.int (2 : Int32))] [(.int (own_ch u2)), (.int (2 : Int32)), (.ref b1)])
  refine Go.callS X5 hx hZ hown (y := y_12) (w86 hw) (w87 hw) (w40 hw) (w88 hw) (by decide) (rm_put l Z a0 hw [] b1 (2 : Int32) (own_ch u2) kb1 (10 : Int32) [(.int ((own_lo0 u0).toInt32)), (.int ((own_hi8 u0).toInt32)), (.int ((own_lo0 u1).toInt32)), (.int ((own_hi8 u1).toInt32)), (.int (0 : Int32)), (.int (0 : Int32)), (.int (0 : Int32)), (.int (0 : Int32)), (.int (0 : Int32)), (.int (0 : Int32))] (own_lo0 u2) (own_hi8 u2) 4 T5.heap n0 O5 V5c Sas Shi Slo ge_b1 ⟨by decide, by decide⟩ ⟨by decide, by decide⟩ (by decide) (by decide) (Nat.le_of_ble_eq_true rfl) (Nat.le_of_ble_eq_true rfl) rfl rfl) rfl 0 (by decide) (by decide) (by rw [hml]; rfl) (argsL := [(.ref b1), (.int (2 : Int32)), (.int (own_ch u2))]) (rest := []) (lenOf pd_9 rfl) rfl rfl (Nat.le_of_eq rfl) (hb hby d17_20) (c2 := 1) (s2 := 10) rfl rfl (by decide) (by decide) fun v7 T7 Lc7 L7 X7 l7 hQ7 => ?_
  obtain ⟨rfl, N7q, K7, V7⟩ := hQ7
  have N7 : Fr n0 L7 := by rw [l7]; exact Fr.app N5 N7q
  have f7_Arv_cs := f5_Arv_cs.keep K7 (ninS ne_cs_b1 nin0)
  have O7 := O5.keep K7 (allS ge_b1 all0)
  have Kk7 := Kk5.trans K7 (allS (Or.inr sz_b1) all0)
  have V7c : Arv Z T7.heap b1 kb1 .byte (10 : Int32) [(.int ((own_lo0 u0).toInt32)), (.int ((own_hi8 u0).toInt32)), (.int ((own_lo0 u1).toInt32)), (.int ((own_hi8 u1).toInt32)), (.int ((own_lo0 u2).toInt32)), (.int ((own_hi8 u2).toInt32)), (.int (0 : Int32)), (.int (0 : Int32)), (.int (0 : Int32)), (.int (0 : Int32))] (.int (0 : Int32)) := V7
  refine Go.of (fun _ kz => XS.iinc X7.here hx rfl (hb hby d17_23) rfl (l' := #[.val (.ref cs), .val (.int (3 : Int32)), .val (.int (5 : Int32)), .val (.ref b1), .val (.int (2 : Int32))]) rfl (XS.iinc X7.here hx rfl (hb hby d17_26) rfl (l' := #[.val (.ref cs), .val (.int (3 : Int32)), .val (.int (5 : Int32)), .val (.ref b1), .val (.int (3 : Int32))]) rfl (XS.goto X7.here hx rfl (pc0 := 29) (pc' := 8) rfl (hb hby d17_29) (by decide) (by decide) (XS.iload X7.here hx rfl (hb hby d17_8) rfl (XS.iloadN X7.here hx rfl (hb hby d17_10) rfl kz))))) ?_
  refine Go.of (fun _ kz => XS.icmpNo X7.here hx rfl (hb hby d17_11) rfl (tlt (by decide : (3 : Int32) < (5 : Int32))).2.1 kz) ?_
  show Go _ _ _ _ _ T7 (mkF m 14 #[.val (.ref cs), .val (.int (3 : Int32)), .val (.int (5 : Int32)), .val (.ref b1), .val (.int (3 : Int32))] [])
  refine Go.of (fun _ kz => XS.aloadN X7.here hx rfl (hb hby d17_14) rfl rfl (XS.iload X7.here hx rfl (hb hby d17_15) rfl (XS.aloadN X7.here hx rfl (hb hby d17_17) rfl rfl (XS.iloadN X7.here hx rfl (hb hby d17_18) rfl kz)))) ?_
  obtain ⟨cl8a, Ar8a, q8a, S8a, N8a, H8a, G8a⟩ := id f7_Arv_cs
  have hin8 := inb_of S8a (j := (3 : Int32)) ⟨by decide, by decide⟩
  refine Go.of (fun _ kz => X7.caload hx (j := (3 : Int32)) (v := (.int (own_ch u3))) Ar8a.1 (State.isArrayOf_alike hZ.alike Ar8a.2.1) Ar8a.2.2 hin8 (H8a.at hin8 rfl) (g := (mkF m 19 #[.val (.ref cs), .val (.int (3 : Int32)), .val (.int (5 : Int32)), .val (.ref b1), .val (.int (3 : Int32))] [(.int (3 : Int32)), (.ref cs), (.int (3 : Int32)), (.ref b1)])) rfl rfl (hb hby d17_19) _ kz) ?_
  show Go _ _ _ _ _ T7 (mkF m 20 #[.val (.ref cs), .val (.int (3 : Int32)), .val (.int (5 : Int32)), .val (.ref b1), .val (.int (3 : Int32))] [(.int (own_ch u3)), (.int (3 : Int32)), (.ref b1)])
  refine Go.callS X7 hx hZ hown (y := y_12) (w86 hw) (w87 hw) (w40 hw) (w88 hw) (by decide) (rm_put l Z a0 hw [] b1 (3 : Int32) (own_ch u3) kb1 (10 : Int32) [(.int ((own_lo0 u0).toInt32)), (.int ((own_hi8 u0).toInt32)), (.int ((own_lo0 u1).toInt32)), (.int ((own_hi8 u1).toInt32)), (.int ((own_lo0 u2).toInt32)), (.int ((own_hi8 u2).toInt32)), (.int (0 : Int32)), (.int (0 : Int32)), (.int (0 : Int32)), (.int (0 : Int32))] (own_lo0 u3) (own_hi8 u3) 6 T7.heap n0 O7 V7c Sas Shi Slo ge_b1 ⟨by decide, by decide⟩ ⟨by decide, by decide⟩ (by decide) (by decide) (Nat.le_of_ble_eq_true rfl) (Nat.le_of_ble_eq_true rfl) rfl rfl) rfl 0 (by decide) (by decide) (by rw [hml]; rfl) (argsL := [(.ref b1), (.int (3 : Int32)), (.int (own_ch u3))]) (rest := []) (lenOf pd_9 rfl) rfl rfl (Nat.le_of_eq rfl) (hb hby d17_20) (c2 := 1) (s2 := 10) rfl rfl (by decide) (by decide) fun v9 T9 Lc9 L9 X9 l9 hQ9 => ?_
  obtain ⟨rfl, N9q, K9, V9⟩ := hQ9
  have N9 : Fr n0 L9 := by rw [l9]; exact Fr.app N7 N9q
  have f9_Arv_cs := f7_Arv_cs.keep K9 (ninS ne_cs_b1 nin0)
  have O9 := O7.keep K9 (allS ge_b1 all0)
  have Kk9 := Kk7.trans K9 (allS (Or.inr sz_b1) all0)
  have V9c : Arv Z T9.heap b1 kb1 .byte (10 : Int32) [(.int ((own_lo0 u0).toInt32)), (.int ((own_hi8 u0).toInt32)), (.int ((own_lo0 u1).toInt32)), (.int ((own_hi8 u1).toInt32)), (.int ((own_lo0 u2).toInt32)), (.int ((own_hi8 u2).toInt32)), (.int ((own_lo0 u3).toInt32)), (.int ((own_hi8 u3).toInt32)), (.int (0 : Int32)), (.int (0 : Int32))] (.int (0 : Int32)) := V9
  refine Go.of (fun _ kz => XS.iinc X9.here hx rfl (hb hby d17_23) rfl (l' := #[.val (.ref cs), .val (.int (4 : Int32)), .val (.int (5 : Int32)), .val (.ref b1), .val (.int (3 : Int32))]) rfl (XS.iinc X9.here hx rfl (hb hby d17_26) rfl (l' := #[.val (.ref cs), .val (.int (4 : Int32)), .val (.int (5 : Int32)), .val (.ref b1), .val (.int (4 : Int32))]) rfl (XS.goto X9.here hx rfl (pc0 := 29) (pc' := 8) rfl (hb hby d17_29) (by decide) (by decide) (XS.iload X9.here hx rfl (hb hby d17_8) rfl (XS.iloadN X9.here hx rfl (hb hby d17_10) rfl kz))))) ?_
  refine Go.of (fun _ kz => XS.icmpNo X9.here hx rfl (hb hby d17_11) rfl (tlt (by decide : (4 : Int32) < (5 : Int32))).2.1 kz) ?_
  show Go _ _ _ _ _ T9 (mkF m 14 #[.val (.ref cs), .val (.int (4 : Int32)), .val (.int (5 : Int32)), .val (.ref b1), .val (.int (4 : Int32))] [])
  refine Go.of (fun _ kz => XS.aloadN X9.here hx rfl (hb hby d17_14) rfl rfl (XS.iload X9.here hx rfl (hb hby d17_15) rfl (XS.aloadN X9.here hx rfl (hb hby d17_17) rfl rfl (XS.iloadN X9.here hx rfl (hb hby d17_18) rfl kz)))) ?_
  obtain ⟨cl10a, Ar10a, q10a, S10a, N10a, H10a, G10a⟩ := id f9_Arv_cs
  have hin10 := inb_of S10a (j := (4 : Int32)) ⟨by decide, by decide⟩
  refine Go.of (fun _ kz => X9.caload hx (j := (4 : Int32)) (v := (.int (own_ch u4))) Ar10a.1 (State.isArrayOf_alike hZ.alike Ar10a.2.1) Ar10a.2.2 hin10 (H10a.at hin10 rfl) (g := (mkF m 19 #[.val (.ref cs), .val (.int (4 : Int32)), .val (.int (5 : Int32)), .val (.ref b1), .val (.int (4 : Int32))] [(.int (4 : Int32)), (.ref cs), (.int (4 : Int32)), (.ref b1)])) rfl rfl (hb hby d17_19) _ kz) ?_
  show Go _ _ _ _ _ T9 (mkF m 20 #[.val (.ref cs), .val (.int (4 : Int32)), .val (.int (5 : Int32)), .val (.ref b1), .val (.int (4 : Int32))] [(.int (own_ch u4)), (.int (4 : Int32)), (.ref b1)])
  refine Go.callS X9 hx hZ hown (y := y_12) (w86 hw) (w87 hw) (w40 hw) (w88 hw) (by decide) (rm_put l Z a0 hw [] b1 (4 : Int32) (own_ch u4) kb1 (10 : Int32) [(.int ((own_lo0 u0).toInt32)), (.int ((own_hi8 u0).toInt32)), (.int ((own_lo0 u1).toInt32)), (.int ((own_hi8 u1).toInt32)), (.int ((own_lo0 u2).toInt32)), (.int ((own_hi8 u2).toInt32)), (.int ((own_lo0 u3).toInt32)), (.int ((own_hi8 u3).toInt32)), (.int (0 : Int32)), (.int (0 : Int32))] (own_lo0 u4) (own_hi8 u4) 8 T9.heap n0 O9 V9c Sas Shi Slo ge_b1 ⟨by decide, by decide⟩ ⟨by decide, by decide⟩ (by decide) (by decide) (Nat.le_of_ble_eq_true rfl) (Nat.le_of_ble_eq_true rfl) rfl rfl) rfl 0 (by decide) (by decide) (by rw [hml]; rfl) (argsL := [(.ref b1), (.int (4 : Int32)), (.int (own_ch u4))]) (rest := []) (lenOf pd_9 rfl) rfl rfl (Nat.le_of_eq rfl) (hb hby d17_20) (c2 := 1) (s2 := 10) rfl rfl (by decide) (by decide) fun v11 T11 Lc11 L11 X11 l11 hQ11 => ?_
  obtain ⟨rfl, N11q, K11, V11⟩ := hQ11
  have N11 : Fr n0 L11 := by rw [l11]; exact Fr.app N9 N11q
  have f11_Arv_cs := f9_Arv_cs.keep K11 (ninS ne_cs_b1 nin0)
  have O11 := O9.keep K11 (allS ge_b1 all0)
  have Kk11 := Kk9.trans K11 (allS (Or.inr sz_b1) all0)
  have V11c : Arv Z T11.heap b1 kb1 .byte (10 : Int32) [(.int ((own_lo0 u0).toInt32)), (.int ((own_hi8 u0).toInt32)), (.int ((own_lo0 u1).toInt32)), (.int ((own_hi8 u1).toInt32)), (.int ((own_lo0 u2).toInt32)), (.int ((own_hi8 u2).toInt32)), (.int ((own_lo0 u3).toInt32)), (.int ((own_hi8 u3).toInt32)), (.int ((own_lo0 u4).toInt32)), (.int ((own_hi8 u4).toInt32))] (.int (0 : Int32)) := V11
  refine Go.of (fun _ kz => XS.iinc X11.here hx rfl (hb hby d17_23) rfl (l' := #[.val (.ref cs), .val (.int (5 : Int32)), .val (.int (5 : Int32)), .val (.ref b1), .val (.int (4 : Int32))]) rfl (XS.iinc X11.here hx rfl (hb hby d17_26) rfl (l' := #[.val (.ref cs), .val (.int (5 : Int32)), .val (.int (5 : Int32)), .val (.ref b1), .val (.int (5 : Int32))]) rfl (XS.goto X11.here hx rfl (pc0 := 29) (pc' := 8) rfl (hb hby d17_29) (by decide) (by decide) (XS.iload X11.here hx rfl (hb hby d17_8) rfl (XS.iloadN X11.here hx rfl (hb hby d17_10) rfl kz))))) ?_
  refine Go.of (fun _ kz => XS.icmpYes X11.here hx rfl (pc0 := 11) (pc' := 32) rfl (hb hby d17_11) rfl (flt (by decide : ¬ (5 : Int32) < (5 : Int32))).2.1 (by decide) (by decide) kz) ?_
  show Go _ _ _ _ _ T11 (mkF m 32 #[.val (.ref cs), .val (.int (5 : Int32)), .val (.int (5 : Int32)), .val (.ref b1), .val (.int (5 : Int32))] [])
  refine Go.of (fun _ kz => XS.aloadN X11.here hx rfl (hb hby d17_32) rfl rfl kz) ?_
  refine Go.ret X11 (v := some (.ref b1)) (fun h => by rw [Bd.returns] at h; cases h) Bd.notSynchronized (fun fs hr => retOut X11 hx Bd.returns rfl (Or.inr (Or.inr (Or.inr (Or.inr ⟨rfl, rfl, rfl⟩)))) (hb hby d17_33) hr) (by decide) (by decide) ?_
  show Q_rm_tob_5 Z _ _ _ _ _ _ _ h0 n0 _ T11.heap _
  exact ⟨_, _, rfl, N11, Kk11, sz_b1, V11c⟩

theorem ef_rm_co_5 (m : MethodId) (x0 : Addr) (x1 : Int32) (x2 : Int32) : entryFrame m #[(.ref x0), (.int x1), (.int x2)] 6 = mkF m 0 #[.val (.ref x0), .val (.int x1), .val (.int x2), .unset, .unset, .unset] [] := by first | (simp [entryFrame, mkF, argsToLocals, Value.category]; done) | rfl
def Q_rm_co_5 (Z : State) (cs : Addr) (kc : ClassId) (u0 : UInt16) (u1 : UInt16) (u2 : UInt16) (u3 : UInt16) (u4 : UInt16) (h0 : Heap) (n0 : Nat) (v : Option Value) (h : Heap) (L : List Loc) : Prop := ∃ (b : Addr) (kb : ClassId) (z : Int32) (vs : List Value), v = some (.ref b) ∧ Fr n0 L ∧ Keep h0 h [] ∧ h0.size ≤ b ∧ Arv Z h b kb .byte z vs (.int (0 : Int32)) ∧ ((z = (5 : Int32) ∧ vs = [(.int ((own_lo u0).toInt32)), (.int ((own_lo u1).toInt32)), (.int ((own_lo u2).toInt32)), (.int ((own_lo u3).toInt32)), (.int ((own_lo u4).toInt32))] ∧ (¬ (255 : Int32) < (own_ch u0) ∧ ¬ (255 : Int32) < (own_ch u1) ∧ ¬ (255 : Int32) < (own_ch u2) ∧ ¬ (255 : Int32) < (own_ch u3) ∧ ¬ (255 : Int32) < (own_ch u4))) ∨ (z = (10 : Int32) ∧ vs = [(.int ((own_lo0 u0).toInt32)), (.int ((own_hi8 u0).toInt32)), (.int ((own_lo0 u1).toInt32)), (.int ((own_hi8 u1).toInt32)), (.int ((own_lo0 u2).toInt32)), (.int ((own_hi8 u2).toInt32)), (.int ((own_lo0 u3).toInt32)), (.int ((own_hi8 u3).toInt32)), (.int ((own_lo0 u4).toInt32)), (.int ((own_hi8 u4).toInt32))]))
set_option maxRecDepth 65536 in
set_option maxHeartbeats 40000000 in
theorem rm_co_5 (l : Launch) (Z : State) (a0 : Array Value) (hw : ∀ d ∈ tables_1, d.before a0 Z = true) (wz : List Jvm.Cond) (cs : Addr) (kc : ClassId) (u0 : UInt16) (u1 : UInt16) (u2 : UInt16) (u3 : UInt16) (u4 : UInt16) (h0 : Heap) (n0 : Nat) (O0 : Old Z n0 h0) (Vc : Arv Z h0 cs kc .char (5 : Int32) [(.int (own_ch u0)), (.int (own_ch u1)), (.int (own_ch u2)), (.int (own_ch u3)), (.int (own_ch u4))] (.int (0 : Int32))) (Sas : Sta Z Z.heap "java/lang/StringUTF16" "$assertionsDisabled" "Z" (.int (1 : Int32))) (Shi : Sta Z Z.heap "java/lang/StringUTF16" "HI_BYTE_SHIFT" "I" (.int (0 : Int32))) (Slo : Sta Z Z.heap "java/lang/StringUTF16" "LO_BYTE_SHIFT" "I" (.int (8 : Int32))) :
    MetFree l y_17 (head1 (Jvm.Cond.code y_17 jdk_52_method_16_code 6 (some (.array .byte)) :: wz) ({ frames := 3, cells := 2, slots := 15, locals := 40 } : Room)) (fun aZ UZ => aZ = #[(.ref cs), (.int (0 : Int32)), (.int (5 : Int32))] ∧ Z.Warmed39 UZ.vm ∧ UZ.heap = h0) (fun _ _ _ _ _ => True) (fun _ UZ oZ UY => ∃ vZ LZ, oZ = .returned vZ ∧ Q_rm_co_5 Z cs kc u0 u1 u2 u3 u4 h0 n0 vZ UY.heap LZ ∧ FrameEnd UZ oZ UY LZ ({ frames := 3, cells := 2, slots := 15, locals := 40 } : Room).cells ({ frames := 3, cells := 2, slots := 15, locals := 40 } : Room).slots) := by
  refine MetFree.of_bodySF (plainFor_of_name pn_7) hisR ?_
  intro p e s m args below meth c s₁ Bd hml0 hP hK
  obtain ⟨rfl, hZ, hh⟩ := hP
  have hx := Bd.exec
  have hby := Bd.bytes
  have hml : c.maxLocals = 6 := hml0
  have hown : s.vm.findClass "java/lang/StringUTF16" = some m.cls := findClass_of_methodNamed Bd.named
  have hnm := (name_of_methodNamed Bd.named Bd.method).1
  have X0 : Stand p l e ({ frames := 3, cells := 2, slots := 15, locals := 40 } : Room) s m #[(.ref cs), (.int (0 : Int32)), (.int (5 : Int32))] below meth c s₁ [] 0 0 := Stand.of_body Bd
  have e0 : s₁.heap = h0 := by rw [← hh, Bd.state]; rfl
  have N0 := Fr.nil n0
  have Z0 : n0 ≤ h0.size := O0.1 ▸ O0.2.1
  have K0 := Keep.refl h0 []
  show Go p e below (fun oW tW LW => FrameEnd s oW tW LW ({ frames := 3, cells := 2, slots := 15, locals := 40 } : Room).cells ({ frames := 3, cells := 2, slots := 15, locals := 40 } : Room).slots) (Q_rm_co_5 Z cs kc u0 u1 u2 u3 u4 h0 n0) s₁ (entryFrame m #[(.ref cs), (.int (0 : Int32)), (.int (5 : Int32))] 6)
  refine Go.of (fun t kz => castTop (ef_rm_co_5 m cs (0 : Int32) (5 : Int32)) kz) ?_
  show Go _ _ _ _ _ s₁ (mkF m 0 #[.val (.ref cs), .val (.int (0 : Int32)), .val (.int (5 : Int32)), .unset, .unset, .unset] [])
  refine Go.of (fun _ kz => XS.iloadN X0.here hx rfl (hb hby d7_0) rfl kz) ?_
  obtain ⟨T1, h1, k1, X1, e1, E1, A1, st1⟩ := newP (aty := .byte) X0 hx hZ (w21 hw) e0 (g := (mkF m 1 #[.val (.ref cs), .val (.int (0 : Int32)), .val (.int (5 : Int32)), .unset, .unset, .unset] [(.int (5 : Int32))])) rfl (hb hby d7_1) rfl (by decide) (cap := 5) (by decide) (by decide) (by decide) (by decide)
  obtain ⟨b1, g1⟩ : ∃ z, z = h0.size := ⟨_, rfl⟩
  rw [← g1] at A1 st1
  have ne_cs_b1 : cs ≠ b1 := Nat.ne_of_lt (Nat.lt_of_lt_of_le Vc.lt (Nat.le_of_eq g1.symm))
  have ge_b1 : n0 ≤ b1 := Nat.le_trans (O0.1 ▸ O0.2.1) (Nat.le_of_eq g1.symm)
  have hsz_b1 := Nat.le_of_eq g1.symm
  have sz_b1 : h0.size ≤ b1 := Nat.le_trans (Keep.refl h0 []).1 (Nat.le_of_eq g1.symm)
  have f1_Arv_cs := Vc.ext E1
  have O1 := O0.ext E1
  have Kk1 := (Keep.refl h0 []).ext E1
  have V_b1 : Arv Z h1 b1 k1 .byte (5 : Int32) [(.int (0 : Int32)), (.int (0 : Int32)), (.int (0 : Int32)), (.int (0 : Int32)), (.int (0 : Int32))] (.int (0 : Int32)) := (Arv.new A1 (by decide)).pad (pad_rep [] (.int (0 : Int32)) 5)
  refine Go.of (fun _ kz => st1 _ kz) ?_
  refine Go.of (fun _ kz => XS.astoreN X1.here hx rfl (hb hby d7_3) rfl rfl (l' := #[.val (.ref cs), .val (.int (0 : Int32)), .val (.int (5 : Int32)), .val (.ref b1), .unset, .unset]) rfl (XS.aloadN X1.here hx rfl (hb hby d7_4) rfl rfl (XS.iloadN X1.here hx rfl (hb hby d7_5) rfl (XS.aloadN X1.here hx rfl (hb hby d7_6) rfl rfl (XS.iconst X1.here hx rfl (hb hby d7_7) (XS.iloadN X1.here hx rfl (hb hby d7_8) rfl kz)))))) ?_
  show Go _ _ _ _ _ T1 (mkF m 9 #[.val (.ref cs), .val (.int (0 : Int32)), .val (.int (5 : Int32)), .val (.ref b1), .unset, .unset] [(.int (5 : Int32)), (.int (0 : Int32)), (.ref b1), (.int (0 : Int32)), (.ref cs)])
  refine Go.callS X1 hx hZ hown (y := y_13) (w42 hw) (w43 hw) (w40 hw) (w44 hw) (by decide) (rm_ci_5 l Z a0 hw [] cs b1 kc k1 u0 u1 u2 u3 u4 h1 n0 O1 f1_Arv_cs V_b1 ne_cs_b1 ge_b1) e1 0 (by decide) (by decide) (by rw [hml]; rfl) (argsL := [(.ref cs), (.int (0 : Int32)), (.ref b1), (.int (0 : Int32)), (.int (5 : Int32))]) (rest := []) (lenOf pd_10 rfl) rfl rfl (Nat.le_of_eq rfl) (hb hby d7_9) (c2 := 1) (s2 := 5) rfl rfl (by decide) (by decide) fun v2 T2 Lc2 L2 X2 l2 hQ2 => ?_
  obtain ⟨k2, rfl, N2q, K2, hD2⟩ := hQ2
  have N2 : Fr n0 L2 := by rw [l2]; exact Fr.app N0 N2q
  have f2_Arv_cs := f1_Arv_cs.keep K2 (ninS ne_cs_b1 nin0)
  have O2 := O1.keep K2 (allS ge_b1 all0)
  have Kk2 := Kk1.trans K2 (allS (Or.inr sz_b1) all0)
  show Go _ _ _ _ _ T2 (mkF m 12 #[.val (.ref cs), .val (.int (0 : Int32)), .val (.int (5 : Int32)), .val (.ref b1), .unset, .unset] [(.int k2)])
  rcases hD2 with ⟨rfl, hlat2, V2b⟩ | hf2
  · show Go _ _ _ _ _ T2 (mkF m 12 #[.val (.ref cs), .val (.int (0 : Int32)), .val (.int (5 : Int32)), .val (.ref b1), .unset, .unset] [(.int (5 : Int32))])
    refine Go.of (fun _ kz => XS.istore X2.here hx rfl (hb hby d7_12) rfl (l' := #[.val (.ref cs), .val (.int (0 : Int32)), .val (.int (5 : Int32)), .val (.ref b1), .val (.int (5 : Int32)), .unset]) rfl (XS.iload X2.here hx rfl (hb hby d7_14) rfl (XS.iloadN X2.here hx rfl (hb hby d7_16) rfl kz))) ?_
    refine Go.of (fun _ kz => XS.icmpYes X2.here hx rfl (pc0 := 17) (pc' := 57) rfl (hb hby d7_17) rfl (teq (by decide : (5 : Int32) = (5 : Int32))).1 (by decide) (by decide) kz) ?_
    refine Go.of (fun _ kz => XS.aloadN X2.here hx rfl (hb hby d7_57) rfl rfl kz) ?_
    refine Go.ret X2 (v := some (.ref b1)) (fun h => by rw [Bd.returns] at h; cases h) Bd.notSynchronized (fun fs hr => retOut X2 hx Bd.returns rfl (Or.inr (Or.inr (Or.inr (Or.inr ⟨rfl, rfl, rfl⟩)))) (hb hby d7_58) hr) (by decide) (by decide) ?_
    show Q_rm_co_5 Z _ _ _ _ _ _ _ h0 n0 _ T2.heap _
    exact ⟨_, _, _, _, rfl, N2, Kk2, sz_b1, V2b, Or.inl ⟨rfl, rfl, hlat2⟩⟩
  · show Go _ _ _ _ _ T2 (mkF m 12 #[.val (.ref cs), .val (.int (0 : Int32)), .val (.int (5 : Int32)), .val (.ref b1), .unset, .unset] [(.int k2)])
    refine Go.of (fun _ kz => XS.istore X2.here hx rfl (hb hby d7_12) rfl (l' := #[.val (.ref cs), .val (.int (0 : Int32)), .val (.int (5 : Int32)), .val (.ref b1), .val (.int k2), .unset]) rfl (XS.iload X2.here hx rfl (hb hby d7_14) rfl (XS.iloadN X2.here hx rfl (hb hby d7_16) rfl kz))) ?_
    refine Go.of (fun _ kz => XS.icmpNo X2.here hx rfl (hb hby d7_17) rfl (feq (by rcases hf2 with ⟨rfl, _⟩ | ⟨rfl, _⟩ | ⟨rfl, _⟩ | ⟨rfl, _⟩ | ⟨rfl, _⟩ <;> decide)).1 kz) ?_
    refine Go.of (fun _ kz => XS.aloadN X2.here hx rfl (hb hby d7_20) rfl rfl (XS.iloadN X2.here hx rfl (hb hby d7_21) rfl (XS.iloadN X2.here hx rfl (hb hby d7_22) rfl kz))) ?_
    show Go _ _ _ _ _ T2 (mkF m 23 #[.val (.ref cs), .val (.int (0 : Int32)), .val (.int (5 : Int32)), .val (.ref b1), .val (.int k2), .unset] [(.int (5 : Int32)), (.int (0 : Int32)), (.ref cs)])
    refine Go.callS X2 hx hZ hown (y := y_16) (w76 hw) (w77 hw) (w40 hw) (w78 hw) (by decide) (rm_tob_5 l Z a0 hw [] cs kc u0 u1 u2 u3 u4 T2.heap n0 O2 f2_Arv_cs Sas Shi Slo) rfl 0 (by decide) (by decide) (by rw [hml]; rfl) (argsL := [(.ref cs), (.int (0 : Int32)), (.int (5 : Int32))]) (rest := []) (lenOf pd_11 rfl) rfl rfl (Nat.le_of_eq rfl) (hb hby d7_23) (c2 := 2) (s2 := 15) rfl rfl (by decide) (by decide) fun v3 T3 Lc3 L3 X3 l3 hQ3 => ?_
    obtain ⟨b3, kb3, rfl, N3q, K3, hsz3, V3⟩ := hQ3
    have N3 : Fr n0 L3 := by rw [l3]; exact Fr.app N2 N3q
    have ge_b3 : n0 ≤ b3 := Nat.le_trans (O2.1 ▸ O2.2.1) hsz3
    have sz_b3 : h0.size ≤ b3 := Nat.le_trans Kk2.1 hsz3
    have f3_Arv_cs := f2_Arv_cs.keep K3 nin0
    have O3 := O2.keep K3 all0
    have Kk3 := Kk2.trans K3 all0
    refine Go.of (fun _ kz => XS.astore X3.here hx rfl (hb hby d7_26) rfl rfl (l' := #[.val (.ref cs), .val (.int (0 : Int32)), .val (.int (5 : Int32)), .val (.ref b1), .val (.int k2), .val (.ref b3)]) rfl (XS.aload X3.here hx rfl (hb hby d7_28) rfl rfl (XS.iload X3.here hx rfl (hb hby d7_30) rfl kz))) ?_
    show Go _ _ _ _ _ T3 (mkF m 32 #[.val (.ref cs), .val (.int (0 : Int32)), .val (.int (5 : Int32)), .val (.ref b1), .val (.int k2), .val (.ref b3)] [(.int k2), (.ref b3)])
    obtain ⟨x0, x1, r, hj, hj1, hv0, hv1, hr, hbg⟩ : ∃ x0 x1 r : Int32, (¬ (k2 <<< ((1 : Int32) &&& 31)) < (0 : Int32) ∧ (k2 <<< ((1 : Int32) &&& 31)) < (10 : Int32)) ∧ (¬ ((k2 <<< ((1 : Int32) &&& 31)) + (1 : Int32)) < (0 : Int32) ∧ ((k2 <<< ((1 : Int32) &&& 31)) + (1 : Int32)) < (10 : Int32)) ∧ ([(.int ((own_lo0 u0).toInt32)), (.int ((own_hi8 u0).toInt32)), (.int ((own_lo0 u1).toInt32)), (.int ((own_hi8 u1).toInt32)), (.int ((own_lo0 u2).toInt32)), (.int ((own_hi8 u2).toInt32)), (.int ((own_lo0 u3).toInt32)), (.int ((own_hi8 u3).toInt32)), (.int ((own_lo0 u4).toInt32)), (.int ((own_hi8 u4).toInt32))] : List Value).getD ((k2 <<< ((1 : Int32) &&& 31))).toNatClampNeg (.int (0 : Int32)) = .int x0 ∧ ([(.int ((own_lo0 u0).toInt32)), (.int ((own_hi8 u0).toInt32)), (.int ((own_lo0 u1).toInt32)), (.int ((own_hi8 u1).toInt32)), (.int ((own_lo0 u2).toInt32)), (.int ((own_hi8 u2).toInt32)), (.int ((own_lo0 u3).toInt32)), (.int ((own_hi8 u3).toInt32)), (.int ((own_lo0 u4).toInt32)), (.int ((own_hi8 u4).toInt32))] : List Value).getD (((k2 <<< ((1 : Int32) &&& 31)) + (1 : Int32))).toNatClampNeg (.int (0 : Int32)) = .int x1 ∧ nar .char ((((x0 &&& (255 : Int32)) <<< ((0 : Int32) &&& 31)) ||| ((x1 &&& (255 : Int32)) <<< ((8 : Int32) &&& 31))).toUInt32.toUInt16.toUInt32.toInt32) = r ∧ (255 : Int32) < r := by
      rcases hf2 with ⟨rfl, hg⟩ | ⟨rfl, -, hg⟩ | ⟨rfl, -, -, hg⟩ | ⟨rfl, -, -, -, hg⟩ | ⟨rfl, -, -, -, -, hg⟩
      · exact ⟨_, _, _, ⟨by decide, by decide⟩, ⟨by decide, by decide⟩, rfl, rfl, own_get u0, hg⟩
      · exact ⟨_, _, _, ⟨by decide, by decide⟩, ⟨by decide, by decide⟩, rfl, rfl, own_get u1, hg⟩
      · exact ⟨_, _, _, ⟨by decide, by decide⟩, ⟨by decide, by decide⟩, rfl, rfl, own_get u2, hg⟩
      · exact ⟨_, _, _, ⟨by decide, by decide⟩, ⟨by decide, by decide⟩, rfl, rfl, own_get u3, hg⟩
      · exact ⟨_, _, _, ⟨by decide, by decide⟩, ⟨by decide, by decide⟩, rfl, rfl, own_get u4, hg⟩
    refine Go.callS X3 hx hZ hown (y := y_7) (w92 hw) (w93 hw) (w40 hw) (w94 hw) (by decide) (rm_get l Z a0 hw [] b3 k2 kb3 (10 : Int32) [(.int ((own_lo0 u0).toInt32)), (.int ((own_hi8 u0).toInt32)), (.int ((own_lo0 u1).toInt32)), (.int ((own_hi8 u1).toInt32)), (.int ((own_lo0 u2).toInt32)), (.int ((own_hi8 u2).toInt32)), (.int ((own_lo0 u3).toInt32)), (.int ((own_hi8 u3).toInt32)), (.int ((own_lo0 u4).toInt32)), (.int ((own_hi8 u4).toInt32))] x0 x1 r T3.heap n0 O3 V3 Sas Shi Slo hj hj1 hv0 hv1 hr) rfl 0 (by decide) (by decide) (by rw [hml]; rfl) (argsL := [(.ref b3), (.int k2)]) (rest := []) (lenOf pd_5 rfl) rfl rfl (Nat.le_of_eq rfl) (hb hby d7_32) (c2 := 2) (s2 := 15) rfl rfl (by decide) (by decide) fun v4 T4 Lc4 L4 X4 l4 hQ4 => ?_
    obtain ⟨rfl, N4q, e4⟩ := hQ4
    have N4 : Fr n0 L4 := by rw [l4]; exact Fr.app N3 N4q
    refine Go.of (fun _ kz => XS.sipush X4.here hx rfl (hb hby d7_35) kz) ?_
    refine Go.of (fun _ kz => XS.icmpYes X4.here hx rfl (pc0 := 38) (pc' := 54) rfl (hb hby d7_38) rfl (tlt hbg).2.2.1 (by decide) (by decide) kz) ?_
    refine Go.of (fun _ kz => XS.aload X4.here hx rfl (hb hby d7_54) rfl rfl kz) ?_
    refine Go.ret X4 (v := some (.ref b3)) (fun h => by rw [Bd.returns] at h; cases h) Bd.notSynchronized (fun fs hr => retOut X4 hx Bd.returns rfl (Or.inr (Or.inr (Or.inr (Or.inr ⟨rfl, rfl, rfl⟩)))) (hb hby d7_56) hr) (by decide) (by decide) ?_
    show Q_rm_co_5 Z _ _ _ _ _ _ _ h0 n0 _ T4.heap _
    rw [e4]
    exact ⟨_, _, _, _, rfl, N4, Kk3, sz_b3, V3, Or.inr ⟨rfl, rfl⟩⟩

theorem ef_rm_cal_5_0 (m : MethodId) (x0 : Addr) (x1 : Int32) : entryFrame m #[(.ref x0), (.int x1)] 2 = mkF m 0 #[.val (.ref x0), .val (.int x1)] [] := by first | (simp [entryFrame, mkF, argsToLocals, Value.category]; done) | rfl
def Q_rm_cal_5_0 (Z : State) (b : Addr) (kb : ClassId) (vs : List Value) (h0 : Heap) (n0 : Nat) (v : Option Value) (h : Heap) (L : List Loc) : Prop := v = some (.int (0 : Int32)) ∧ Fr n0 L ∧ h = h0
set_option maxRecDepth 65536 in
set_option maxHeartbeats 40000000 in
theorem rm_cal_5_0 (l : Launch) (Z : State) (a0 : Array Value) (hw : ∀ d ∈ tables_1, d.before a0 Z = true) (wz : List Jvm.Cond) (b : Addr) (kb : ClassId) (vs : List Value) (h0 : Heap) (n0 : Nat) (O0 : Old Z n0 h0) (Vb : Arv Z h0 b kb .byte (5 : Int32) vs (.int (0 : Int32))) :
    MetFree l y_18 (head1 (Jvm.Cond.code y_18 jdk_52_method_15_code 2 (some .byte) :: wz) ({ frames := 0, cells := 0, slots := 0, locals := 0 } : Room)) (fun aZ UZ => aZ = #[(.ref b), (.int (5 : Int32))] ∧ Z.Warmed39 UZ.vm ∧ UZ.heap = h0) (fun _ _ _ _ _ => True) (fun _ UZ oZ UY => ∃ vZ LZ, oZ = .returned vZ ∧ Q_rm_cal_5_0 Z b kb vs h0 n0 vZ UY.heap LZ ∧ FrameEnd UZ oZ UY LZ ({ frames := 0, cells := 0, slots := 0, locals := 0 } : Room).cells ({ frames := 0, cells := 0, slots := 0, locals := 0 } : Room).slots) := by
  refine MetFree.of_bodySF (plainFor_of_name pn_9) hisR ?_
  intro p e s m args below meth c s₁ Bd hml0 hP hK
  obtain ⟨rfl, hZ, hh⟩ := hP
  have hx := Bd.exec
  have hby := Bd.bytes
  have hml : c.maxLocals = 2 := hml0
  have hown : s.vm.findClass "java/lang/StringUTF16" = some m.cls := findClass_of_methodNamed Bd.named
  have hnm := (name_of_methodNamed Bd.named Bd.method).1
  have X0 : Stand p l e ({ frames := 0, cells := 0, slots := 0, locals := 0 } : Room) s m #[(.ref b), (.int (5 : Int32))] below meth c s₁ [] 0 0 := Stand.of_body Bd
  have e0 : s₁.heap = h0 := by rw [← hh, Bd.state]; rfl
  have N0 := Fr.nil n0
  have Z0 : n0 ≤ h0.size := O0.1 ▸ O0.2.1
  have K0 := Keep.refl h0 []
  show Go p e below (fun oW tW LW => FrameEnd s oW tW LW ({ frames := 0, cells := 0, slots := 0, locals := 0 } : Room).cells ({ frames := 0, cells := 0, slots := 0, locals := 0 } : Room).slots) (Q_rm_cal_5_0 Z b kb vs h0 n0) s₁ (entryFrame m #[(.ref b), (.int (5 : Int32))] 2)
  refine Go.of (fun t kz => castTop (ef_rm_cal_5_0 m b (5 : Int32)) kz) ?_
  show Go _ _ _ _ _ s₁ (mkF m 0 #[.val (.ref b), .val (.int (5 : Int32))] [])
  refine Go.of (fun _ kz => XS.iloadN X0.here hx rfl (hb hby d9_0) rfl (XS.aloadN X0.here hx rfl (hb hby d9_1) rfl rfl kz)) ?_
  obtain ⟨cl1a, Ar1a, q1a, S1a, N1a, H1a, G1a⟩ := id Vb
  refine Go.of (fun _ kz => X0.arraylength hx (by rw [e0]; exact Ar1a.1) (State.isArrayOf_alike hZ.alike Ar1a.2.1) (g := (mkF m 2 #[.val (.ref b), .val (.int (5 : Int32))] [(.ref b), (.int (5 : Int32))])) rfl rfl (hb hby d9_2) _ kz) ?_
  rw [(len_of S1a N1a)]
  refine Go.of (fun _ kz => XS.isub X0.here hx rfl (hb hby d9_3) rfl kz) ?_
  show Go _ _ _ _ _ s₁ (mkF m 4 #[.val (.ref b), .val (.int (5 : Int32))] [(.int ((5 : Int32) - (5 : Int32)))])
  rw [(by decide : ((5 : Int32) - (5 : Int32)) = (0 : Int32))]
  refine Go.of (fun _ kz => XS.bipush X0.here hx rfl (hb hby d9_4) (XS.iushr X0.here hx rfl (hb hby d9_6) rfl kz)) ?_
  show Go _ _ _ _ _ s₁ (mkF m 7 #[.val (.ref b), .val (.int (5 : Int32))] [(.int (((0 : Int32).toUInt32 >>> ((31 : Int32) &&& 31).toUInt32).toInt32))])
  rw [(by decide : (((0 : Int32).toUInt32 >>> ((31 : Int32) &&& 31).toUInt32).toInt32) = (0 : Int32))]
  refine Go.of (fun _ kz => XS.i2b X0.here hx rfl (hb hby d9_7) rfl kz) ?_
  show Go _ _ _ _ _ s₁ (mkF m 8 #[.val (.ref b), .val (.int (5 : Int32))] [(.int ((0 : Int32).toInt8.toInt32))])
  rw [(by decide : ((0 : Int32).toInt8.toInt32) = (0 : Int32))]
  show Go _ _ _ _ _ s₁ (mkF m 8 #[.val (.ref b), .val (.int (5 : Int32))] [(.int (0 : Int32))])
  refine Go.ret X0 (v := some (.int (0 : Int32))) (fun h => by rw [Bd.returns] at h; cases h) Bd.notSynchronized (fun fs hr => retN X0 hx (t := .byte) Bd.returns (by simp) (hb hby d9_8) hr) (by decide) (by decide) ?_
  show Q_rm_cal_5_0 Z _ _ _ h0 n0 _ s₁.heap _
  rw [e0]
  exact ⟨rfl, N0, rfl⟩

theorem ef_rm_cal_5_1 (m : MethodId) (x0 : Addr) (x1 : Int32) : entryFrame m #[(.ref x0), (.int x1)] 2 = mkF m 0 #[.val (.ref x0), .val (.int x1)] [] := by first | (simp [entryFrame, mkF, argsToLocals, Value.category]; done) | rfl
def Q_rm_cal_5_1 (Z : State) (b : Addr) (kb : ClassId) (vs : List Value) (h0 : Heap) (n0 : Nat) (v : Option Value) (h : Heap) (L : List Loc) : Prop := v = some (.int (1 : Int32)) ∧ Fr n0 L ∧ h = h0
set_option maxRecDepth 65536 in
set_option maxHeartbeats 40000000 in
theorem rm_cal_5_1 (l : Launch) (Z : State) (a0 : Array Value) (hw : ∀ d ∈ tables_1, d.before a0 Z = true) (wz : List Jvm.Cond) (b : Addr) (kb : ClassId) (vs : List Value) (h0 : Heap) (n0 : Nat) (O0 : Old Z n0 h0) (Vb : Arv Z h0 b kb .byte (10 : Int32) vs (.int (0 : Int32))) :
    MetFree l y_18 (head1 (Jvm.Cond.code y_18 jdk_52_method_15_code 2 (some .byte) :: wz) ({ frames := 0, cells := 0, slots := 0, locals := 0 } : Room)) (fun aZ UZ => aZ = #[(.ref b), (.int (5 : Int32))] ∧ Z.Warmed39 UZ.vm ∧ UZ.heap = h0) (fun _ _ _ _ _ => True) (fun _ UZ oZ UY => ∃ vZ LZ, oZ = .returned vZ ∧ Q_rm_cal_5_1 Z b kb vs h0 n0 vZ UY.heap LZ ∧ FrameEnd UZ oZ UY LZ ({ frames := 0, cells := 0, slots := 0, locals := 0 } : Room).cells ({ frames := 0, cells := 0, slots := 0, locals := 0 } : Room).slots) := by
  refine MetFree.of_bodySF (plainFor_of_name pn_9) hisR ?_
  intro p e s m args below meth c s₁ Bd hml0 hP hK
  obtain ⟨rfl, hZ, hh⟩ := hP
  have hx := Bd.exec
  have hby := Bd.bytes
  have hml : c.maxLocals = 2 := hml0
  have hown : s.vm.findClass "java/lang/StringUTF16" = some m.cls := findClass_of_methodNamed Bd.named
  have hnm := (name_of_methodNamed Bd.named Bd.method).1
  have X0 : Stand p l e ({ frames := 0, cells := 0, slots := 0, locals := 0 } : Room) s m #[(.ref b), (.int (5 : Int32))] below meth c s₁ [] 0 0 := Stand.of_body Bd
  have e0 : s₁.heap = h0 := by rw [← hh, Bd.state]; rfl
  have N0 := Fr.nil n0
  have Z0 : n0 ≤ h0.size := O0.1 ▸ O0.2.1
  have K0 := Keep.refl h0 []
  show Go p e below (fun oW tW LW => FrameEnd s oW tW LW ({ frames := 0, cells := 0, slots := 0, locals := 0 } : Room).cells ({ frames := 0, cells := 0, slots := 0, locals := 0 } : Room).slots) (Q_rm_cal_5_1 Z b kb vs h0 n0) s₁ (entryFrame m #[(.ref b), (.int (5 : Int32))] 2)
  refine Go.of (fun t kz => castTop (ef_rm_cal_5_1 m b (5 : Int32)) kz) ?_
  show Go _ _ _ _ _ s₁ (mkF m 0 #[.val (.ref b), .val (.int (5 : Int32))] [])
  refine Go.of (fun _ kz => XS.iloadN X0.here hx rfl (hb hby d9_0) rfl (XS.aloadN X0.here hx rfl (hb hby d9_1) rfl rfl kz)) ?_
  obtain ⟨cl1a, Ar1a, q1a, S1a, N1a, H1a, G1a⟩ := id Vb
  refine Go.of (fun _ kz => X0.arraylength hx (by rw [e0]; exact Ar1a.1) (State.isArrayOf_alike hZ.alike Ar1a.2.1) (g := (mkF m 2 #[.val (.ref b), .val (.int (5 : Int32))] [(.ref b), (.int (5 : Int32))])) rfl rfl (hb hby d9_2) _ kz) ?_
  rw [(len_of S1a N1a)]
  refine Go.of (fun _ kz => XS.isub X0.here hx rfl (hb hby d9_3) rfl kz) ?_
  show Go _ _ _ _ _ s₁ (mkF m 4 #[.val (.ref b), .val (.int (5 : Int32))] [(.int ((5 : Int32) - (10 : Int32)))])
  rw [(by decide : ((5 : Int32) - (10 : Int32)) = (-5 : Int32))]
  refine Go.of (fun _ kz => XS.bipush X0.here hx rfl (hb hby d9_4) (XS.iushr X0.here hx rfl (hb hby d9_6) rfl kz)) ?_
  show Go _ _ _ _ _ s₁ (mkF m 7 #[.val (.ref b), .val (.int (5 : Int32))] [(.int (((-5 : Int32).toUInt32 >>> ((31 : Int32) &&& 31).toUInt32).toInt32))])
  rw [(by decide : (((-5 : Int32).toUInt32 >>> ((31 : Int32) &&& 31).toUInt32).toInt32) = (1 : Int32))]
  refine Go.of (fun _ kz => XS.i2b X0.here hx rfl (hb hby d9_7) rfl kz) ?_
  show Go _ _ _ _ _ s₁ (mkF m 8 #[.val (.ref b), .val (.int (5 : Int32))] [(.int ((1 : Int32).toInt8.toInt32))])
  rw [(by decide : ((1 : Int32).toInt8.toInt32) = (1 : Int32))]
  show Go _ _ _ _ _ s₁ (mkF m 8 #[.val (.ref b), .val (.int (5 : Int32))] [(.int (1 : Int32))])
  refine Go.ret X0 (v := some (.int (1 : Int32))) (fun h => by rw [Bd.returns] at h; cases h) Bd.notSynchronized (fun fs hr => retN X0 hx (t := .byte) Bd.returns (by simp) (hb hby d9_8) hr) (by decide) (by decide) ?_
  show Q_rm_cal_5_1 Z _ _ _ h0 n0 _ s₁.heap _
  rw [e0]
  exact ⟨rfl, N0, rfl⟩

theorem ef_rm_in2_5 (m : MethodId) (x0 : Addr) (x1 : Addr) (x2 : Int32) (x3 : Int32) : entryFrame m #[(.ref x0), (.ref x1), (.int x2), (.int x3), .null] 6 = mkF m 0 #[.val (.ref x0), .val (.ref x1), .val (.int x2), .val (.int x3), .val .null, .unset] [] := by first | (simp [entryFrame, mkF, argsToLocals, Value.category]; done) | rfl
def Q_rm_in2_5 (Z : State) (a : Addr) (cs : Addr) (kc : ClassId) (u0 : UInt16) (u1 : UInt16) (u2 : UInt16) (u3 : UInt16) (u4 : UInt16) (csz : Int32) (h0 : Heap) (n0 : Nat) (v : Option Value) (h : Heap) (L : List Loc) : Prop := v = none ∧ Fr n0 L ∧ Keep h0 h [a] ∧ Exa Z h a "java/lang/String" ∧ ∃ (b : Addr) (kb : ClassId) (cd z : Int32) (vs : List Value), Fld Z h a "java/lang/String" "value" "[B" (.ref b) ∧ Fld Z h a "java/lang/String" "coder" "B" (.int cd) ∧ Arv Z h b kb .byte z vs (.int (0 : Int32)) ∧ nar .byte cd = cd ∧ ((cd = (0 : Int32) ∧ z = (5 : Int32) ∧ vs = [(.int ((own_lo u0).toInt32)), (.int ((own_lo u1).toInt32)), (.int ((own_lo u2).toInt32)), (.int ((own_lo u3).toInt32)), (.int ((own_lo u4).toInt32))] ∧ (¬ (255 : Int32) < (own_ch u0) ∧ ¬ (255 : Int32) < (own_ch u1) ∧ ¬ (255 : Int32) < (own_ch u2) ∧ ¬ (255 : Int32) < (own_ch u3) ∧ ¬ (255 : Int32) < (own_ch u4))) ∨ (cd = (1 : Int32) ∧ z = (10 : Int32) ∧ vs = [(.int ((own_lo0 u0).toInt32)), (.int ((own_hi8 u0).toInt32)), (.int ((own_lo0 u1).toInt32)), (.int ((own_hi8 u1).toInt32)), (.int ((own_lo0 u2).toInt32)), (.int ((own_hi8 u2).toInt32)), (.int ((own_lo0 u3).toInt32)), (.int ((own_hi8 u3).toInt32)), (.int ((own_lo0 u4).toInt32)), (.int ((own_hi8 u4).toInt32))]))
set_option maxRecDepth 65536 in
set_option maxHeartbeats 40000000 in
theorem rm_in2_5 (l : Launch) (Z : State) (a0 : Array Value) (hw : ∀ d ∈ tables_1, d.before a0 Z = true) (wz : List Jvm.Cond) (a : Addr) (cs : Addr) (kc : ClassId) (u0 : UInt16) (u1 : UInt16) (u2 : UInt16) (u3 : UInt16) (u4 : UInt16) (csz : Int32) (h0 : Heap) (n0 : Nat) (O0 : Old Z n0 h0) (E : Exa Z h0 a "java/lang/String") (Fv : Fld Z h0 a "java/lang/String" "value" "[B" .null) (Fc : Fld Z h0 a "java/lang/String" "coder" "B" (.int (0 : Int32))) (ge_a : n0 ≤ a) (hac : cs ≠ a) (Vc : Arv Z h0 cs kc .char (5 : Int32) [(.int (own_ch u0)), (.int (own_ch u1)), (.int (own_ch u2)), (.int (own_ch u3)), (.int (own_ch u4))] (.int (0 : Int32))) (Sas : Sta Z Z.heap "java/lang/StringUTF16" "$assertionsDisabled" "Z" (.int (1 : Int32))) (Shi : Sta Z Z.heap "java/lang/StringUTF16" "HI_BYTE_SHIFT" "I" (.int (0 : Int32))) (Slo : Sta Z Z.heap "java/lang/StringUTF16" "LO_BYTE_SHIFT" "I" (.int (8 : Int32))) (Scs : Sta Z Z.heap "java/lang/String" "COMPACT_STRINGS" "Z" (.int csz)) (hcs : ¬ csz = (0 : Int32)) :
    MetFree l y_19 (head1 (Jvm.Cond.code y_19 jdk_42_method_149_code 6 none :: wz) ({ frames := 4, cells := 2, slots := 15, locals := 57 } : Room)) (fun aZ UZ => aZ = #[(.ref a), (.ref cs), (.int (0 : Int32)), (.int (5 : Int32)), .null] ∧ Z.Warmed39 UZ.vm ∧ UZ.heap = h0) (fun _ _ _ _ _ => True) (fun _ UZ oZ UY => ∃ vZ LZ, oZ = .returned vZ ∧ Q_rm_in2_5 Z a cs kc u0 u1 u2 u3 u4 csz h0 n0 vZ UY.heap LZ ∧ FrameEnd UZ oZ UY LZ ({ frames := 4, cells := 2, slots := 15, locals := 57 } : Room).cells ({ frames := 4, cells := 2, slots := 15, locals := 57 } : Room).slots) := by
  refine MetFree.of_bodySF (plainFor_of_name pn_3) hisR ?_
  intro p e s m args below meth c s₁ Bd hml0 hP hK
  obtain ⟨rfl, hZ, hh⟩ := hP
  have hx := Bd.exec
  have hby := Bd.bytes
  have hml : c.maxLocals = 6 := hml0
  have hown : s.vm.findClass "java/lang/String" = some m.cls := findClass_of_methodNamed Bd.named
  have hnm := (name_of_methodNamed Bd.named Bd.method).1
  have X0 : Stand p l e ({ frames := 4, cells := 2, slots := 15, locals := 57 } : Room) s m #[(.ref a), (.ref cs), (.int (0 : Int32)), (.int (5 : Int32)), .null] below meth c s₁ [] 0 0 := Stand.of_body Bd
  have e0 : s₁.heap = h0 := by rw [← hh, Bd.state]; rfl
  have N0 := Fr.nil n0
  have Z0 : n0 ≤ h0.size := O0.1 ▸ O0.2.1
  have K0 := Keep.refl h0 []
  show Go p e below (fun oW tW LW => FrameEnd s oW tW LW ({ frames := 4, cells := 2, slots := 15, locals := 57 } : Room).cells ({ frames := 4, cells := 2, slots := 15, locals := 57 } : Room).slots) (Q_rm_in2_5 Z a cs kc u0 u1 u2 u3 u4 csz h0 n0) s₁ (entryFrame m #[(.ref a), (.ref cs), (.int (0 : Int32)), (.int (5 : Int32)), .null] 6)
  refine Go.of (fun t kz => castTop (ef_rm_in2_5 m a cs (0 : Int32) (5 : Int32)) kz) ?_
  show Go _ _ _ _ _ s₁ (mkF m 0 #[.val (.ref a), .val (.ref cs), .val (.int (0 : Int32)), .val (.int (5 : Int32)), .val .null, .unset] [])
  refine Go.of (fun _ kz => XS.aloadN X0.here hx rfl (hb hby d3_0) rfl rfl kz) ?_
  show Go _ _ _ _ _ s₁ (mkF m 1 #[.val (.ref a), .val (.ref cs), .val (.int (0 : Int32)), .val (.int (5 : Int32)), .val .null, .unset] [(.ref a)])
  obtain ⟨T1, X1, e1, st1⟩ := initO X0 hx hZ hown (w17 hw) (w18 hw) (w19 hw) e0 (g := (mkF m 1 #[.val (.ref a), .val (.ref cs), .val (.int (0 : Int32)), .val (.int (5 : Int32)), .val .null, .unset] [(.ref a)])) rfl (by rw [hml]; rfl) rfl (hb hby d3_1) (by decide) (W := 0) (by show 2 * 0 + _ ≤ _; exact Nat.le_of_eq rfl) (by decide)
  refine Go.of (fun _ kz => st1 _ kz) ?_
  refine Go.of (fun _ kz => XS.iloadN X1.here hx rfl (hb hby d3_4) rfl kz) ?_
  refine Go.of (fun _ kz => XS.ifYes X1.here hx rfl (pc0 := 5) (pc' := 27) rfl (hb hby d3_5) rfl ((if0 _ _).trans (feq (by decide : ¬ (5 : Int32) = (0 : Int32))).2) (by decide) (by decide) kz) ?_
  show Go _ _ _ _ _ T1 (mkF m 27 #[.val (.ref a), .val (.ref cs), .val (.int (0 : Int32)), .val (.int (5 : Int32)), .val .null, .unset] [])
  refine Go.getS X1 hx hZ hown (host := "") (Or.inl (w37 hw)) Via.refl e1 ((Scs).ext O0.2) (hb hby d3_27) fun T2 X2 e2 => ?_
  refine Go.of (fun _ kz => XS.ifNo X2.here hx rfl (hb hby d3_30) rfl ((if0 _ _).trans (feq hcs).1) kz) ?_
  refine Go.of (fun _ kz => XS.aloadN X2.here hx rfl (hb hby d3_33) rfl rfl (XS.iloadN X2.here hx rfl (hb hby d3_34) rfl (XS.iloadN X2.here hx rfl (hb hby d3_35) rfl kz))) ?_
  show Go _ _ _ _ _ T2 (mkF m 36 #[.val (.ref a), .val (.ref cs), .val (.int (0 : Int32)), .val (.int (5 : Int32)), .val .null, .unset] [(.int (5 : Int32)), (.int (0 : Int32)), (.ref cs)])
  refine Go.callS X2 hx hZ hown (y := y_17) (w38 hw) (w39 hw) (w40 hw) (w41 hw) (by decide) (rm_co_5 l Z a0 hw [] cs kc u0 u1 u2 u3 u4 h0 n0 O0 Vc Sas Shi Slo) e2 0 (by decide) (by decide) (by rw [hml]; rfl) (argsL := [(.ref cs), (.int (0 : Int32)), (.int (5 : Int32))]) (rest := []) (lenOf pd_11 rfl) rfl rfl (Nat.le_of_eq rfl) (hb hby d3_36) (c2 := 2) (s2 := 15) rfl rfl (by decide) (by decide) fun v3 T3 Lc3 L3 X3 l3 hQ3 => ?_
  obtain ⟨b3, kb3, zz3, vs3, rfl, N3q, K3, hsz3, V3, hD3⟩ := hQ3
  have N3 : Fr n0 L3 := by rw [l3]; exact Fr.app N0 N3q
  have ne_a_b3 : a ≠ b3 := Nat.ne_of_lt (Nat.lt_of_lt_of_le E.lt hsz3)
  have f3_Exa_a := E.keep K3
  have f3_Fld_a_value := Fv.keep K3 nin0
  have f3_Fld_a_coder := Fc.keep K3 nin0
  have f3_Arv_cs := Vc.keep K3 nin0
  have O3 := O0.keep K3 all0
  have Kk3 := (Keep.refl h0 [a]).trans K3 all0
  show Go _ _ _ _ _ T3 (mkF m 39 #[.val (.ref a), .val (.ref cs), .val (.int (0 : Int32)), .val (.int (5 : Int32)), .val .null, .unset] [(.ref b3)])
  rcases hD3 with ⟨rfl, rfl, hlat⟩ | ⟨rfl, rfl⟩
  · show Go _ _ _ _ _ T3 (mkF m 39 #[.val (.ref a), .val (.ref cs), .val (.int (0 : Int32)), .val (.int (5 : Int32)), .val .null, .unset] [(.ref b3)])
    refine Go.of (fun _ kz => XS.astore X3.here hx rfl (hb hby d3_39) rfl rfl (l' := #[.val (.ref a), .val (.ref cs), .val (.int (0 : Int32)), .val (.int (5 : Int32)), .val .null, .val (.ref b3)]) rfl (XS.aloadN X3.here hx rfl (hb hby d3_41) rfl rfl (XS.aload X3.here hx rfl (hb hby d3_42) rfl rfl (XS.iloadN X3.here hx rfl (hb hby d3_44) rfl kz)))) ?_
    show Go _ _ _ _ _ T3 (mkF m 45 #[.val (.ref a), .val (.ref cs), .val (.int (0 : Int32)), .val (.int (5 : Int32)), .val .null, .val (.ref b3)] [(.int (5 : Int32)), (.ref b3), (.ref a)])
    refine Go.callS X3 hx hZ hown (y := y_18) (w45 hw) (w46 hw) (w40 hw) (w47 hw) (by decide) (rm_cal_5_0 l Z a0 hw [] b3 kb3 [(.int ((own_lo u0).toInt32)), (.int ((own_lo u1).toInt32)), (.int ((own_lo u2).toInt32)), (.int ((own_lo u3).toInt32)), (.int ((own_lo u4).toInt32))] T3.heap n0 O3 V3) rfl 1 (by decide) (by decide) (by rw [hml]; rfl) (argsL := [(.ref b3), (.int (5 : Int32))]) (rest := [(.ref a)]) (lenOf pd_12 rfl) rfl rfl (Nat.le_of_eq rfl) (hb hby d3_45) (c2 := 2) (s2 := 15) rfl rfl (by decide) (by decide) fun v4 T4 Lc4 L4 X4 l4 hQ4 => ?_
    obtain ⟨rfl, N4q, e4⟩ := hQ4
    have N4 : Fr n0 L4 := by rw [l4]; exact Fr.app N3 N4q
    obtain ⟨T5, h5, X5, e5, W5, st5⟩ := putFN X4 hx hZ hown (w27 hw) Via.refl e4 f3_Fld_a_coder f3_Exa_a (Or.inr ⟨(w23 hw), rfl, hnm⟩) (w3 hw) (ty := .byte) (v' := (.int (0 : Int32))) (by decide) rfl (by decide) (g := (mkF m 48 #[.val (.ref a), .val (.ref cs), .val (.int (0 : Int32)), .val (.int (5 : Int32)), .val .null, .val (.ref b3)] [(.int (0 : Int32)), (.ref a)])) rfl rfl (hb hby d3_48)
    have Fw5 := f3_Fld_a_coder.same W5
    have f5_Exa_a := f3_Exa_a.wr W5
    have f5_Fld_a_value := f3_Fld_a_value.other W5 (Or.inr (slot_ne (Or.inr (w22 hw)) (Or.inr (w23 hw)) (by decide) (t := (.array .byte)) (t' := .byte) (by decide) (by decide)))
    have f5_Arv_cs := f3_Arv_cs.other W5 hac
    have f5_Arv_b3 := V3.other W5 (Ne.symm ne_a_b3)
    have O5 := O3.wr W5 ge_a
    have N5 := Fr.snoc X5 N4 ge_a
    have Kk5 := Kk3.wr W5 (Or.inl (List.mem_singleton.mpr rfl))
    refine Go.of (fun _ kz => st5 _ kz) ?_
    refine Go.of (fun _ kz => XS.aloadN X5.here hx rfl (hb hby d3_51) rfl rfl (XS.aload X5.here hx rfl (hb hby d3_52) rfl rfl kz)) ?_
    obtain ⟨T6, h6, X6, e6, W6, st6⟩ := putF X5 hx hZ hown (host := "") (Or.inl (w26 hw)) Via.refl e5 f5_Fld_a_value f5_Exa_a (Or.inr ⟨(w22 hw), rfl, hnm⟩) (w3 hw) (ty := (.array .byte)) (by decide) rfl rfl (g := (mkF m 54 #[.val (.ref a), .val (.ref cs), .val (.int (0 : Int32)), .val (.int (5 : Int32)), .val .null, .val (.ref b3)] [(.ref b3), (.ref a)])) rfl rfl (hb hby d3_54)
    have Fw6 := f5_Fld_a_value.same W6
    have f6_Exa_a := f5_Exa_a.wr W6
    have f6_Fld_a_coder := Fw5.other W6 (Or.inr (slot_ne (Or.inr (w23 hw)) (Or.inr (w22 hw)) (by decide) (t := .byte) (t' := (.array .byte)) (by decide) (by decide)))
    have f6_Arv_cs := f5_Arv_cs.other W6 hac
    have f6_Arv_b3 := f5_Arv_b3.other W6 (Ne.symm ne_a_b3)
    have O6 := O5.wr W6 ge_a
    have N6 := Fr.snoc X6 N5 ge_a
    have Kk6 := Kk5.wr W6 (Or.inl (List.mem_singleton.mpr rfl))
    refine Go.of (fun _ kz => st6 _ kz) ?_
    refine Go.ret X6 (v := none) (fun _ => rfl) Bd.notSynchronized (fun fs hr => X6.returnOut hx Bd.returns (hb hby d3_57) hr) (by decide) (by decide) ?_
    show Q_rm_in2_5 Z _ _ _ _ _ _ _ _ _ h0 n0 _ T6.heap _
    rw [e6]
    exact ⟨rfl, N6, Kk6, f6_Exa_a, _, _, _, _, _, Fw6, f6_Fld_a_coder, f6_Arv_b3, by decide, Or.inl ⟨rfl, rfl, rfl, hlat⟩⟩
  · show Go _ _ _ _ _ T3 (mkF m 39 #[.val (.ref a), .val (.ref cs), .val (.int (0 : Int32)), .val (.int (5 : Int32)), .val .null, .unset] [(.ref b3)])
    refine Go.of (fun _ kz => XS.astore X3.here hx rfl (hb hby d3_39) rfl rfl (l' := #[.val (.ref a), .val (.ref cs), .val (.int (0 : Int32)), .val (.int (5 : Int32)), .val .null, .val (.ref b3)]) rfl (XS.aloadN X3.here hx rfl (hb hby d3_41) rfl rfl (XS.aload X3.here hx rfl (hb hby d3_42) rfl rfl (XS.iloadN X3.here hx rfl (hb hby d3_44) rfl kz)))) ?_
    show Go _ _ _ _ _ T3 (mkF m 45 #[.val (.ref a), .val (.ref cs), .val (.int (0 : Int32)), .val (.int (5 : Int32)), .val .null, .val (.ref b3)] [(.int (5 : Int32)), (.ref b3), (.ref a)])
    refine Go.callS X3 hx hZ hown (y := y_18) (w45 hw) (w46 hw) (w40 hw) (w47 hw) (by decide) (rm_cal_5_1 l Z a0 hw [] b3 kb3 [(.int ((own_lo0 u0).toInt32)), (.int ((own_hi8 u0).toInt32)), (.int ((own_lo0 u1).toInt32)), (.int ((own_hi8 u1).toInt32)), (.int ((own_lo0 u2).toInt32)), (.int ((own_hi8 u2).toInt32)), (.int ((own_lo0 u3).toInt32)), (.int ((own_hi8 u3).toInt32)), (.int ((own_lo0 u4).toInt32)), (.int ((own_hi8 u4).toInt32))] T3.heap n0 O3 V3) rfl 1 (by decide) (by decide) (by rw [hml]; rfl) (argsL := [(.ref b3), (.int (5 : Int32))]) (rest := [(.ref a)]) (lenOf pd_12 rfl) rfl rfl (Nat.le_of_eq rfl) (hb hby d3_45) (c2 := 2) (s2 := 15) rfl rfl (by decide) (by decide) fun v7 T7 Lc7 L7 X7 l7 hQ7 => ?_
    obtain ⟨rfl, N7q, e7⟩ := hQ7
    have N7 : Fr n0 L7 := by rw [l7]; exact Fr.app N3 N7q
    obtain ⟨T8, h8, X8, e8, W8, st8⟩ := putFN X7 hx hZ hown (w27 hw) Via.refl e7 f3_Fld_a_coder f3_Exa_a (Or.inr ⟨(w23 hw), rfl, hnm⟩) (w3 hw) (ty := .byte) (v' := (.int (1 : Int32))) (by decide) rfl (by decide) (g := (mkF m 48 #[.val (.ref a), .val (.ref cs), .val (.int (0 : Int32)), .val (.int (5 : Int32)), .val .null, .val (.ref b3)] [(.int (1 : Int32)), (.ref a)])) rfl rfl (hb hby d3_48)
    have Fw8 := f3_Fld_a_coder.same W8
    have f8_Exa_a := f3_Exa_a.wr W8
    have f8_Fld_a_value := f3_Fld_a_value.other W8 (Or.inr (slot_ne (Or.inr (w22 hw)) (Or.inr (w23 hw)) (by decide) (t := (.array .byte)) (t' := .byte) (by decide) (by decide)))
    have f8_Arv_cs := f3_Arv_cs.other W8 hac
    have f8_Arv_b3 := V3.other W8 (Ne.symm ne_a_b3)
    have O8 := O3.wr W8 ge_a
    have N8 := Fr.snoc X8 N7 ge_a
    have Kk8 := Kk3.wr W8 (Or.inl (List.mem_singleton.mpr rfl))
    refine Go.of (fun _ kz => st8 _ kz) ?_
    refine Go.of (fun _ kz => XS.aloadN X8.here hx rfl (hb hby d3_51) rfl rfl (XS.aload X8.here hx rfl (hb hby d3_52) rfl rfl kz)) ?_
    obtain ⟨T9, h9, X9, e9, W9, st9⟩ := putF X8 hx hZ hown (host := "") (Or.inl (w26 hw)) Via.refl e8 f8_Fld_a_value f8_Exa_a (Or.inr ⟨(w22 hw), rfl, hnm⟩) (w3 hw) (ty := (.array .byte)) (by decide) rfl rfl (g := (mkF m 54 #[.val (.ref a), .val (.ref cs), .val (.int (0 : Int32)), .val (.int (5 : Int32)), .val .null, .val (.ref b3)] [(.ref b3), (.ref a)])) rfl rfl (hb hby d3_54)
    have Fw9 := f8_Fld_a_value.same W9
    have f9_Exa_a := f8_Exa_a.wr W9
    have f9_Fld_a_coder := Fw8.other W9 (Or.inr (slot_ne (Or.inr (w23 hw)) (Or.inr (w22 hw)) (by decide) (t := .byte) (t' := (.array .byte)) (by decide) (by decide)))
    have f9_Arv_cs := f8_Arv_cs.other W9 hac
    have f9_Arv_b3 := f8_Arv_b3.other W9 (Ne.symm ne_a_b3)
    have O9 := O8.wr W9 ge_a
    have N9 := Fr.snoc X9 N8 ge_a
    have Kk9 := Kk8.wr W9 (Or.inl (List.mem_singleton.mpr rfl))
    refine Go.of (fun _ kz => st9 _ kz) ?_
    refine Go.ret X9 (v := none) (fun _ => rfl) Bd.notSynchronized (fun fs hr => X9.returnOut hx Bd.returns (hb hby d3_57) hr) (by decide) (by decide) ?_
    show Q_rm_in2_5 Z _ _ _ _ _ _ _ _ _ h0 n0 _ T9.heap _
    rw [e9]
    exact ⟨rfl, N9, Kk9, f9_Exa_a, _, _, _, _, _, Fw9, f9_Fld_a_coder, f9_Arv_b3, by decide, Or.inr ⟨rfl, rfl, rfl⟩⟩

theorem ef_rm_in1_5 (m : MethodId) (x0 : Addr) (x1 : Addr) : entryFrame m #[(.ref x0), (.ref x1)] 2 = mkF m 0 #[.val (.ref x0), .val (.ref x1)] [] := by first | (simp [entryFrame, mkF, argsToLocals, Value.category]; done) | rfl
def Q_rm_in1_5 (Z : State) (a : Addr) (cs : Addr) (kc : ClassId) (u0 : UInt16) (u1 : UInt16) (u2 : UInt16) (u3 : UInt16) (u4 : UInt16) (csz : Int32) (h0 : Heap) (n0 : Nat) (v : Option Value) (h : Heap) (L : List Loc) : Prop := v = none ∧ Fr n0 L ∧ Keep h0 h [a] ∧ Exa Z h a "java/lang/String" ∧ ∃ (b : Addr) (kb : ClassId) (cd z : Int32) (vs : List Value), Fld Z h a "java/lang/String" "value" "[B" (.ref b) ∧ Fld Z h a "java/lang/String" "coder" "B" (.int cd) ∧ Arv Z h b kb .byte z vs (.int (0 : Int32)) ∧ nar .byte cd = cd ∧ ((cd = (0 : Int32) ∧ z = (5 : Int32) ∧ vs = [(.int ((own_lo u0).toInt32)), (.int ((own_lo u1).toInt32)), (.int ((own_lo u2).toInt32)), (.int ((own_lo u3).toInt32)), (.int ((own_lo u4).toInt32))] ∧ (¬ (255 : Int32) < (own_ch u0) ∧ ¬ (255 : Int32) < (own_ch u1) ∧ ¬ (255 : Int32) < (own_ch u2) ∧ ¬ (255 : Int32) < (own_ch u3) ∧ ¬ (255 : Int32) < (own_ch u4))) ∨ (cd = (1 : Int32) ∧ z = (10 : Int32) ∧ vs = [(.int ((own_lo0 u0).toInt32)), (.int ((own_hi8 u0).toInt32)), (.int ((own_lo0 u1).toInt32)), (.int ((own_hi8 u1).toInt32)), (.int ((own_lo0 u2).toInt32)), (.int ((own_hi8 u2).toInt32)), (.int ((own_lo0 u3).toInt32)), (.int ((own_hi8 u3).toInt32)), (.int ((own_lo0 u4).toInt32)), (.int ((own_hi8 u4).toInt32))]))
set_option maxRecDepth 65536 in
set_option maxHeartbeats 40000000 in
theorem rm_in1_5 (l : Launch) (Z : State) (a0 : Array Value) (hw : ∀ d ∈ tables_1, d.before a0 Z = true) (wz : List Jvm.Cond) (a : Addr) (cs : Addr) (kc : ClassId) (u0 : UInt16) (u1 : UInt16) (u2 : UInt16) (u3 : UInt16) (u4 : UInt16) (csz : Int32) (h0 : Heap) (n0 : Nat) (O0 : Old Z n0 h0) (E : Exa Z h0 a "java/lang/String") (Fv : Fld Z h0 a "java/lang/String" "value" "[B" .null) (Fc : Fld Z h0 a "java/lang/String" "coder" "B" (.int (0 : Int32))) (ge_a : n0 ≤ a) (hac : cs ≠ a) (Vc : Arv Z h0 cs kc .char (5 : Int32) [(.int (own_ch u0)), (.int (own_ch u1)), (.int (own_ch u2)), (.int (own_ch u3)), (.int (own_ch u4))] (.int (0 : Int32))) (Sas : Sta Z Z.heap "java/lang/StringUTF16" "$assertionsDisabled" "Z" (.int (1 : Int32))) (Shi : Sta Z Z.heap "java/lang/StringUTF16" "HI_BYTE_SHIFT" "I" (.int (0 : Int32))) (Slo : Sta Z Z.heap "java/lang/StringUTF16" "LO_BYTE_SHIFT" "I" (.int (8 : Int32))) (Scs : Sta Z Z.heap "java/lang/String" "COMPACT_STRINGS" "Z" (.int csz)) (hcs : ¬ csz = (0 : Int32)) :
    MetFree l y_20 (head1 (Jvm.Cond.code y_20 jdk_42_method_3_code 2 none :: wz) ({ frames := 5, cells := 2, slots := 15, locals := 74 } : Room)) (fun aZ UZ => aZ = #[(.ref a), (.ref cs)] ∧ Z.Warmed39 UZ.vm ∧ UZ.heap = h0) (fun _ _ _ _ _ => True) (fun _ UZ oZ UY => ∃ vZ LZ, oZ = .returned vZ ∧ Q_rm_in1_5 Z a cs kc u0 u1 u2 u3 u4 csz h0 n0 vZ UY.heap LZ ∧ FrameEnd UZ oZ UY LZ ({ frames := 5, cells := 2, slots := 15, locals := 74 } : Room).cells ({ frames := 5, cells := 2, slots := 15, locals := 74 } : Room).slots) := by
  refine MetFree.of_bodySF (plainFor_of_name pn_2) hisR ?_
  intro p e s m args below meth c s₁ Bd hml0 hP hK
  obtain ⟨rfl, hZ, hh⟩ := hP
  have hx := Bd.exec
  have hby := Bd.bytes
  have hml : c.maxLocals = 2 := hml0
  have hown : s.vm.findClass "java/lang/String" = some m.cls := findClass_of_methodNamed Bd.named
  have hnm := (name_of_methodNamed Bd.named Bd.method).1
  have X0 : Stand p l e ({ frames := 5, cells := 2, slots := 15, locals := 74 } : Room) s m #[(.ref a), (.ref cs)] below meth c s₁ [] 0 0 := Stand.of_body Bd
  have e0 : s₁.heap = h0 := by rw [← hh, Bd.state]; rfl
  have N0 := Fr.nil n0
  have Z0 : n0 ≤ h0.size := O0.1 ▸ O0.2.1
  have K0 := Keep.refl h0 []
  show Go p e below (fun oW tW LW => FrameEnd s oW tW LW ({ frames := 5, cells := 2, slots := 15, locals := 74 } : Room).cells ({ frames := 5, cells := 2, slots := 15, locals := 74 } : Room).slots) (Q_rm_in1_5 Z a cs kc u0 u1 u2 u3 u4 csz h0 n0) s₁ (entryFrame m #[(.ref a), (.ref cs)] 2)
  refine Go.of (fun t kz => castTop (ef_rm_in1_5 m a cs) kz) ?_
  show Go _ _ _ _ _ s₁ (mkF m 0 #[.val (.ref a), .val (.ref cs)] [])
  refine Go.of (fun _ kz => XS.aloadN X0.here hx rfl (hb hby d2_0) rfl rfl (XS.aloadN X0.here hx rfl (hb hby d2_1) rfl rfl (XS.iconst X0.here hx rfl (hb hby d2_2) (XS.aloadN X0.here hx rfl (hb hby d2_3) rfl rfl kz)))) ?_
  obtain ⟨cl1a, Ar1a, q1a, S1a, N1a, H1a, G1a⟩ := id Vc
  refine Go.of (fun _ kz => X0.arraylength hx (by rw [e0]; exact Ar1a.1) (State.isArrayOf_alike hZ.alike Ar1a.2.1) (g := (mkF m 4 #[.val (.ref a), .val (.ref cs)] [(.ref cs), (.int (0 : Int32)), (.ref cs), (.ref a)])) rfl rfl (hb hby d2_4) _ kz) ?_
  rw [(len_of S1a N1a)]
  refine Go.of (fun _ kz => XS.aconstNull X0.here hx rfl (hb hby d2_5) kz) ?_
  show Go _ _ _ _ _ s₁ (mkF m 6 #[.val (.ref a), .val (.ref cs)] [.null, (.int (5 : Int32)), (.int (0 : Int32)), (.ref cs), (.ref a)])
  refine Go.callI X0 hx hZ hown (y := y_19) rfl (w13 hw) (w14 hw) (w4 hw) (w16 hw) (by decide) (a := a) (rm_in2_5 l Z a0 hw [] a cs kc u0 u1 u2 u3 u4 csz h0 n0 O0 E Fv Fc ge_a hac Vc Sas Shi Slo Scs hcs) e0 0 (by decide) (by decide) (by rw [hml]; rfl) (argsL := [(.ref cs), (.int (0 : Int32)), (.int (5 : Int32)), .null]) (rest := []) (lenOf pd_13 rfl) rfl rfl (Nat.le_of_eq rfl) (hb hby d2_6) (c2 := 2) (s2 := 15) rfl rfl (by decide) (by decide) fun v2 T2 Lc2 L2 X2 l2 hQ2 => ?_
  obtain ⟨rfl, N2q, hR2⟩ := hQ2
  have N2 : Fr n0 L2 := by rw [l2]; exact Fr.app N0 N2q
  refine Go.ret X2 (v := none) (fun _ => rfl) Bd.notSynchronized (fun fs hr => X2.returnOut hx Bd.returns (hb hby d2_9) hr) (by decide) (by decide) ?_
  show Q_rm_in1_5 Z _ _ _ _ _ _ _ _ _ h0 n0 _ T2.heap _
  exact ⟨rfl, N2, hR2⟩

def own_let (c : Int32) : Int32 := if (¬ c < (65 : Int32) ∧ ¬ (90 : Int32) < c) ∨ (¬ c < (97 : Int32) ∧ ¬ (122 : Int32) < c) then 1 else 0
def own_ltr (c : Int32) : Int32 := if own_let c = (0 : Int32) then (if ¬ c < (48 : Int32) ∧ ¬ (57 : Int32) < c then 1 else if c = (95 : Int32) then 1 else 0) else 1
def own_all : List UInt16 → Int32
  | [] => 1
  | u :: us => if own_ltr (own_ch u) = (0 : Int32) then 0 else own_all us
def own_nm : List UInt16 → Int32
  | [] => 0
  | u :: us => if own_let (own_ch u) = (0 : Int32) then 0 else own_all us

theorem d16_0 : decode prog_60_method_5_code 0 = .ok (.iload_n 0, 1) := by decide +kernel
theorem d16_1 : decode prog_60_method_5_code 1 = .ok (.bipush 65, 2) := by decide +kernel
theorem d16_3 : decode prog_60_method_5_code 3 = .ok (.if_icmp .lt 9, 3) := by decide +kernel
theorem d16_6 : decode prog_60_method_5_code 6 = .ok (.iload_n 0, 1) := by decide +kernel
theorem d16_7 : decode prog_60_method_5_code 7 = .ok (.bipush 90, 2) := by decide +kernel
theorem d16_9 : decode prog_60_method_5_code 9 = .ok (.if_icmp .le 15, 3) := by decide +kernel
theorem d16_12 : decode prog_60_method_5_code 12 = .ok (.iload_n 0, 1) := by decide +kernel
theorem d16_13 : decode prog_60_method_5_code 13 = .ok (.bipush 97, 2) := by decide +kernel
theorem d16_15 : decode prog_60_method_5_code 15 = .ok (.if_icmp .lt 13, 3) := by decide +kernel
theorem d16_18 : decode prog_60_method_5_code 18 = .ok (.iload_n 0, 1) := by decide +kernel
theorem d16_19 : decode prog_60_method_5_code 19 = .ok (.bipush 122, 2) := by decide +kernel
theorem d16_21 : decode prog_60_method_5_code 21 = .ok (.if_icmp .gt 7, 3) := by decide +kernel
theorem d16_24 : decode prog_60_method_5_code 24 = .ok (.iconst 1, 1) := by decide +kernel
theorem d16_25 : decode prog_60_method_5_code 25 = .ok (.goto 4, 3) := by decide +kernel
theorem d16_28 : decode prog_60_method_5_code 28 = .ok (.iconst 0, 1) := by decide +kernel
theorem d16_29 : decode prog_60_method_5_code 29 = .ok (.ireturn, 1) := by decide +kernel
theorem pn_16 : plainName "com/example/fulla/fulla/model/Lattice" = true := by first | (simp [plainName, overriddenIn]; done) | decide +kernel
theorem ef_rm_ial (m : MethodId) (x0 : Int32) : entryFrame m #[(.int x0)] 1 = mkF m 0 #[.val (.int x0)] [] := by first | (simp [entryFrame, mkF, argsToLocals, Value.category]; done) | rfl
def Q_rm_ial (Z : State) (cc : Int32) (h0 : Heap) (n0 : Nat) (v : Option Value) (h : Heap) (L : List Loc) : Prop := v = some (.int (own_let cc)) ∧ Fr n0 L ∧ h = h0
set_option maxRecDepth 65536 in
set_option maxHeartbeats 40000000 in
theorem rm_ial (l : Launch) (Z : State) (a0 : Array Value) (hw : ∀ d ∈ tables_1, d.before a0 Z = true) (wz : List Jvm.Cond) (cc : Int32) (h0 : Heap) (n0 : Nat) (O0 : Old Z n0 h0) :
    MetFree l y_21 (head1 (Jvm.Cond.code y_21 prog_60_method_5_code 1 (some .boolean) :: wz) ({ frames := 0, cells := 0, slots := 0, locals := 0 } : Room)) (fun aZ UZ => aZ = #[(.int cc)] ∧ Z.Warmed39 UZ.vm ∧ UZ.heap = h0) (fun _ _ _ _ _ => True) (fun _ UZ oZ UY => ∃ vZ LZ, oZ = .returned vZ ∧ Q_rm_ial Z cc h0 n0 vZ UY.heap LZ ∧ FrameEnd UZ oZ UY LZ ({ frames := 0, cells := 0, slots := 0, locals := 0 } : Room).cells ({ frames := 0, cells := 0, slots := 0, locals := 0 } : Room).slots) := by
  refine MetFree.of_bodySF (plainFor_of_name pn_16) hisR ?_
  intro p e s m args below meth c s₁ Bd hml0 hP hK
  obtain ⟨rfl, hZ, hh⟩ := hP
  have hx := Bd.exec
  have hby := Bd.bytes
  have hml : c.maxLocals = 1 := hml0
  have hown : s.vm.findClass "com/example/fulla/fulla/model/Lattice" = some m.cls := findClass_of_methodNamed Bd.named
  have hnm := (name_of_methodNamed Bd.named Bd.method).1
  have X0 : Stand p l e ({ frames := 0, cells := 0, slots := 0, locals := 0 } : Room) s m #[(.int cc)] below meth c s₁ [] 0 0 := Stand.of_body Bd
  have e0 : s₁.heap = h0 := by rw [← hh, Bd.state]; rfl
  have N0 := Fr.nil n0
  have Z0 : n0 ≤ h0.size := O0.1 ▸ O0.2.1
  have K0 := Keep.refl h0 []
  show Go p e below (fun oW tW LW => FrameEnd s oW tW LW ({ frames := 0, cells := 0, slots := 0, locals := 0 } : Room).cells ({ frames := 0, cells := 0, slots := 0, locals := 0 } : Room).slots) (Q_rm_ial Z cc h0 n0) s₁ (entryFrame m #[(.int cc)] 1)
  refine Go.of (fun t kz => castTop (ef_rm_ial m cc) kz) ?_
  show Go _ _ _ _ _ s₁ (mkF m 0 #[.val (.int cc)] [])
  refine Go.of (fun _ kz => XS.iloadN X0.here hx rfl (hb hby d16_0) rfl (XS.bipush X0.here hx rfl (hb hby d16_1) kz)) ?_
  by_cases hc3_1 : cc < (65 : Int32)
  · refine Go.of (fun _ kz => XS.icmpYes X0.here hx rfl (pc0 := 3) (pc' := 12) rfl (hb hby d16_3) rfl (tlt hc3_1).1 (by decide) (by decide) kz) ?_
    refine Go.of (fun _ kz => XS.iloadN X0.here hx rfl (hb hby d16_12) rfl (XS.bipush X0.here hx rfl (hb hby d16_13) kz)) ?_
    by_cases hc15_2 : cc < (97 : Int32)
    · refine Go.of (fun _ kz => XS.icmpYes X0.here hx rfl (pc0 := 15) (pc' := 28) rfl (hb hby d16_15) rfl (tlt hc15_2).1 (by decide) (by decide) kz) ?_
      refine Go.of (fun _ kz => XS.iconst X0.here hx rfl (hb hby d16_28) kz) ?_
      show Go _ _ _ _ _ s₁ (mkF m 29 #[.val (.int cc)] [(.int (0 : Int32))])
      refine Go.ret X0 (v := some (.int (0 : Int32))) (fun h => by rw [Bd.returns] at h; cases h) Bd.notSynchronized (fun fs hr => retN X0 hx (t := .boolean) Bd.returns (by simp) (hb hby d16_29) hr) (by decide) (by decide) ?_
      show Q_rm_ial Z _ h0 n0 _ s₁.heap _
      rw [e0]
      exact ⟨by simp [own_let, hc3_1, hc15_2], N0, rfl⟩
    · refine Go.of (fun _ kz => XS.icmpNo X0.here hx rfl (hb hby d16_15) rfl (flt hc15_2).1 kz) ?_
      refine Go.of (fun _ kz => XS.iloadN X0.here hx rfl (hb hby d16_18) rfl (XS.bipush X0.here hx rfl (hb hby d16_19) kz)) ?_
      show Go _ _ _ _ _ s₁ (mkF m 21 #[.val (.int cc)] [(.int (122 : Int32)), (.int cc)])
      by_cases hc21_3 : (122 : Int32) < cc
      · refine Go.of (fun _ kz => XS.icmpYes X0.here hx rfl (pc0 := 21) (pc' := 28) rfl (hb hby d16_21) rfl (tlt hc21_3).2.2.1 (by decide) (by decide) kz) ?_
        refine Go.of (fun _ kz => XS.iconst X0.here hx rfl (hb hby d16_28) kz) ?_
        refine Go.ret X0 (v := some (.int (0 : Int32))) (fun h => by rw [Bd.returns] at h; cases h) Bd.notSynchronized (fun fs hr => retN X0 hx (t := .boolean) Bd.returns (by simp) (hb hby d16_29) hr) (by decide) (by decide) ?_
        show Q_rm_ial Z _ h0 n0 _ s₁.heap _
        rw [e0]
        exact ⟨by simp [own_let, hc3_1, hc15_2, hc21_3], N0, rfl⟩
      · refine Go.of (fun _ kz => XS.icmpNo X0.here hx rfl (hb hby d16_21) rfl (flt hc21_3).2.2.1 kz) ?_
        refine Go.of (fun _ kz => XS.iconst X0.here hx rfl (hb hby d16_24) (XS.goto X0.here hx rfl (pc0 := 25) (pc' := 29) rfl (hb hby d16_25) (by decide) (by decide) kz)) ?_
        refine Go.ret X0 (v := some (.int (1 : Int32))) (fun h => by rw [Bd.returns] at h; cases h) Bd.notSynchronized (fun fs hr => retN X0 hx (t := .boolean) Bd.returns (by simp) (hb hby d16_29) hr) (by decide) (by decide) ?_
        show Q_rm_ial Z _ h0 n0 _ s₁.heap _
        rw [e0]
        exact ⟨by simp [own_let, hc3_1, hc15_2, hc21_3], N0, rfl⟩
  · refine Go.of (fun _ kz => XS.icmpNo X0.here hx rfl (hb hby d16_3) rfl (flt hc3_1).1 kz) ?_
    refine Go.of (fun _ kz => XS.iloadN X0.here hx rfl (hb hby d16_6) rfl (XS.bipush X0.here hx rfl (hb hby d16_7) kz)) ?_
    by_cases hc9_4 : (90 : Int32) < cc
    · refine Go.of (fun _ kz => XS.icmpNo X0.here hx rfl (hb hby d16_9) rfl (tlt hc9_4).2.2.2 kz) ?_
      refine Go.of (fun _ kz => XS.iloadN X0.here hx rfl (hb hby d16_12) rfl (XS.bipush X0.here hx rfl (hb hby d16_13) kz)) ?_
      show Go _ _ _ _ _ s₁ (mkF m 15 #[.val (.int cc)] [(.int (97 : Int32)), (.int cc)])
      by_cases hc15_5 : cc < (97 : Int32)
      · refine Go.of (fun _ kz => XS.icmpYes X0.here hx rfl (pc0 := 15) (pc' := 28) rfl (hb hby d16_15) rfl (tlt hc15_5).1 (by decide) (by decide) kz) ?_
        refine Go.of (fun _ kz => XS.iconst X0.here hx rfl (hb hby d16_28) kz) ?_
        refine Go.ret X0 (v := some (.int (0 : Int32))) (fun h => by rw [Bd.returns] at h; cases h) Bd.notSynchronized (fun fs hr => retN X0 hx (t := .boolean) Bd.returns (by simp) (hb hby d16_29) hr) (by decide) (by decide) ?_
        show Q_rm_ial Z _ h0 n0 _ s₁.heap _
        rw [e0]
        exact ⟨by simp [own_let, hc3_1, hc9_4, hc15_5], N0, rfl⟩
      · refine Go.of (fun _ kz => XS.icmpNo X0.here hx rfl (hb hby d16_15) rfl (flt hc15_5).1 kz) ?_
        refine Go.of (fun _ kz => XS.iloadN X0.here hx rfl (hb hby d16_18) rfl (XS.bipush X0.here hx rfl (hb hby d16_19) kz)) ?_
        by_cases hc21_6 : (122 : Int32) < cc
        · refine Go.of (fun _ kz => XS.icmpYes X0.here hx rfl (pc0 := 21) (pc' := 28) rfl (hb hby d16_21) rfl (tlt hc21_6).2.2.1 (by decide) (by decide) kz) ?_
          refine Go.of (fun _ kz => XS.iconst X0.here hx rfl (hb hby d16_28) kz) ?_
          refine Go.ret X0 (v := some (.int (0 : Int32))) (fun h => by rw [Bd.returns] at h; cases h) Bd.notSynchronized (fun fs hr => retN X0 hx (t := .boolean) Bd.returns (by simp) (hb hby d16_29) hr) (by decide) (by decide) ?_
          show Q_rm_ial Z _ h0 n0 _ s₁.heap _
          rw [e0]
          exact ⟨by simp [own_let, hc3_1, hc9_4, hc15_5, hc21_6], N0, rfl⟩
        · refine Go.of (fun _ kz => XS.icmpNo X0.here hx rfl (hb hby d16_21) rfl (flt hc21_6).2.2.1 kz) ?_
          refine Go.of (fun _ kz => XS.iconst X0.here hx rfl (hb hby d16_24) (XS.goto X0.here hx rfl (pc0 := 25) (pc' := 29) rfl (hb hby d16_25) (by decide) (by decide) kz)) ?_
          refine Go.ret X0 (v := some (.int (1 : Int32))) (fun h => by rw [Bd.returns] at h; cases h) Bd.notSynchronized (fun fs hr => retN X0 hx (t := .boolean) Bd.returns (by simp) (hb hby d16_29) hr) (by decide) (by decide) ?_
          show Q_rm_ial Z _ h0 n0 _ s₁.heap _
          rw [e0]
          exact ⟨by simp [own_let, hc3_1, hc9_4, hc15_5, hc21_6], N0, rfl⟩
    · refine Go.of (fun _ kz => XS.icmpYes X0.here hx rfl (pc0 := 9) (pc' := 24) rfl (hb hby d16_9) rfl (flt hc9_4).2.2.2 (by decide) (by decide) kz) ?_
      refine Go.of (fun _ kz => XS.iconst X0.here hx rfl (hb hby d16_24) (XS.goto X0.here hx rfl (pc0 := 25) (pc' := 29) rfl (hb hby d16_25) (by decide) (by decide) kz)) ?_
      show Go _ _ _ _ _ s₁ (mkF m 29 #[.val (.int cc)] [(.int (1 : Int32))])
      refine Go.ret X0 (v := some (.int (1 : Int32))) (fun h => by rw [Bd.returns] at h; cases h) Bd.notSynchronized (fun fs hr => retN X0 hx (t := .boolean) Bd.returns (by simp) (hb hby d16_29) hr) (by decide) (by decide) ?_
      show Q_rm_ial Z _ h0 n0 _ s₁.heap _
      rw [e0]
      exact ⟨by simp [own_let, hc3_1, hc9_4], N0, rfl⟩

theorem d10_0 : decode method_2_code 0 = .ok (.iload_n 0, 1) := by decide +kernel
theorem d10_1 : decode method_2_code 1 = .ok (.bipush 65, 2) := by decide +kernel
theorem d10_3 : decode method_2_code 3 = .ok (.if_icmp .lt 9, 3) := by decide +kernel
theorem d10_6 : decode method_2_code 6 = .ok (.iload_n 0, 1) := by decide +kernel
theorem d10_7 : decode method_2_code 7 = .ok (.bipush 90, 2) := by decide +kernel
theorem d10_9 : decode method_2_code 9 = .ok (.if_icmp .le 15, 3) := by decide +kernel
theorem d10_12 : decode method_2_code 12 = .ok (.iload_n 0, 1) := by decide +kernel
theorem d10_13 : decode method_2_code 13 = .ok (.bipush 97, 2) := by decide +kernel
theorem d10_15 : decode method_2_code 15 = .ok (.if_icmp .lt 13, 3) := by decide +kernel
theorem d10_18 : decode method_2_code 18 = .ok (.iload_n 0, 1) := by decide +kernel
theorem d10_19 : decode method_2_code 19 = .ok (.bipush 122, 2) := by decide +kernel
theorem d10_21 : decode method_2_code 21 = .ok (.if_icmp .gt 7, 3) := by decide +kernel
theorem d10_24 : decode method_2_code 24 = .ok (.iconst 1, 1) := by decide +kernel
theorem d10_25 : decode method_2_code 25 = .ok (.goto 4, 3) := by decide +kernel
theorem d10_28 : decode method_2_code 28 = .ok (.iconst 0, 1) := by decide +kernel
theorem d10_29 : decode method_2_code 29 = .ok (.ireturn, 1) := by decide +kernel
theorem pn_10 : plainName "com/example/fulla/fulla/model/LatticeIsNamePinLaw" = true := by first | (simp [plainName, overriddenIn]; done) | decide +kernel
theorem ef_rm_ltt (m : MethodId) (x0 : Int32) : entryFrame m #[(.int x0)] 1 = mkF m 0 #[.val (.int x0)] [] := by first | (simp [entryFrame, mkF, argsToLocals, Value.category]; done) | rfl
def Q_rm_ltt (Z : State) (cc : Int32) (h0 : Heap) (n0 : Nat) (v : Option Value) (h : Heap) (L : List Loc) : Prop := v = some (.int (own_let cc)) ∧ Fr n0 L ∧ h = h0
set_option maxRecDepth 65536 in
set_option maxHeartbeats 40000000 in
theorem rm_ltt (l : Launch) (Z : State) (a0 : Array Value) (hw : ∀ d ∈ tables_1, d.before a0 Z = true) (wz : List Jvm.Cond) (cc : Int32) (h0 : Heap) (n0 : Nat) (O0 : Old Z n0 h0) :
    MetFree l y_22 (head1 (Jvm.Cond.code y_22 method_2_code 1 (some .boolean) :: wz) ({ frames := 0, cells := 0, slots := 0, locals := 0 } : Room)) (fun aZ UZ => aZ = #[(.int cc)] ∧ Z.Warmed39 UZ.vm ∧ UZ.heap = h0) (fun _ _ _ _ _ => True) (fun _ UZ oZ UY => ∃ vZ LZ, oZ = .returned vZ ∧ Q_rm_ltt Z cc h0 n0 vZ UY.heap LZ ∧ FrameEnd UZ oZ UY LZ ({ frames := 0, cells := 0, slots := 0, locals := 0 } : Room).cells ({ frames := 0, cells := 0, slots := 0, locals := 0 } : Room).slots) := by
  refine MetFree.of_bodySF (plainFor_of_name pn_10) hisR ?_
  intro p e s m args below meth c s₁ Bd hml0 hP hK
  obtain ⟨rfl, hZ, hh⟩ := hP
  have hx := Bd.exec
  have hby := Bd.bytes
  have hml : c.maxLocals = 1 := hml0
  have hown : s.vm.findClass "com/example/fulla/fulla/model/LatticeIsNamePinLaw" = some m.cls := findClass_of_methodNamed Bd.named
  have hnm := (name_of_methodNamed Bd.named Bd.method).1
  have X0 : Stand p l e ({ frames := 0, cells := 0, slots := 0, locals := 0 } : Room) s m #[(.int cc)] below meth c s₁ [] 0 0 := Stand.of_body Bd
  have e0 : s₁.heap = h0 := by rw [← hh, Bd.state]; rfl
  have N0 := Fr.nil n0
  have Z0 : n0 ≤ h0.size := O0.1 ▸ O0.2.1
  have K0 := Keep.refl h0 []
  show Go p e below (fun oW tW LW => FrameEnd s oW tW LW ({ frames := 0, cells := 0, slots := 0, locals := 0 } : Room).cells ({ frames := 0, cells := 0, slots := 0, locals := 0 } : Room).slots) (Q_rm_ltt Z cc h0 n0) s₁ (entryFrame m #[(.int cc)] 1)
  refine Go.of (fun t kz => castTop (ef_rm_ltt m cc) kz) ?_
  show Go _ _ _ _ _ s₁ (mkF m 0 #[.val (.int cc)] [])
  refine Go.of (fun _ kz => XS.iloadN X0.here hx rfl (hb hby d10_0) rfl (XS.bipush X0.here hx rfl (hb hby d10_1) kz)) ?_
  by_cases hc3_1 : cc < (65 : Int32)
  · refine Go.of (fun _ kz => XS.icmpYes X0.here hx rfl (pc0 := 3) (pc' := 12) rfl (hb hby d10_3) rfl (tlt hc3_1).1 (by decide) (by decide) kz) ?_
    refine Go.of (fun _ kz => XS.iloadN X0.here hx rfl (hb hby d10_12) rfl (XS.bipush X0.here hx rfl (hb hby d10_13) kz)) ?_
    by_cases hc15_2 : cc < (97 : Int32)
    · refine Go.of (fun _ kz => XS.icmpYes X0.here hx rfl (pc0 := 15) (pc' := 28) rfl (hb hby d10_15) rfl (tlt hc15_2).1 (by decide) (by decide) kz) ?_
      refine Go.of (fun _ kz => XS.iconst X0.here hx rfl (hb hby d10_28) kz) ?_
      show Go _ _ _ _ _ s₁ (mkF m 29 #[.val (.int cc)] [(.int (0 : Int32))])
      refine Go.ret X0 (v := some (.int (0 : Int32))) (fun h => by rw [Bd.returns] at h; cases h) Bd.notSynchronized (fun fs hr => retN X0 hx (t := .boolean) Bd.returns (by simp) (hb hby d10_29) hr) (by decide) (by decide) ?_
      show Q_rm_ltt Z _ h0 n0 _ s₁.heap _
      rw [e0]
      exact ⟨by simp [own_let, hc3_1, hc15_2], N0, rfl⟩
    · refine Go.of (fun _ kz => XS.icmpNo X0.here hx rfl (hb hby d10_15) rfl (flt hc15_2).1 kz) ?_
      refine Go.of (fun _ kz => XS.iloadN X0.here hx rfl (hb hby d10_18) rfl (XS.bipush X0.here hx rfl (hb hby d10_19) kz)) ?_
      show Go _ _ _ _ _ s₁ (mkF m 21 #[.val (.int cc)] [(.int (122 : Int32)), (.int cc)])
      by_cases hc21_3 : (122 : Int32) < cc
      · refine Go.of (fun _ kz => XS.icmpYes X0.here hx rfl (pc0 := 21) (pc' := 28) rfl (hb hby d10_21) rfl (tlt hc21_3).2.2.1 (by decide) (by decide) kz) ?_
        refine Go.of (fun _ kz => XS.iconst X0.here hx rfl (hb hby d10_28) kz) ?_
        refine Go.ret X0 (v := some (.int (0 : Int32))) (fun h => by rw [Bd.returns] at h; cases h) Bd.notSynchronized (fun fs hr => retN X0 hx (t := .boolean) Bd.returns (by simp) (hb hby d10_29) hr) (by decide) (by decide) ?_
        show Q_rm_ltt Z _ h0 n0 _ s₁.heap _
        rw [e0]
        exact ⟨by simp [own_let, hc3_1, hc15_2, hc21_3], N0, rfl⟩
      · refine Go.of (fun _ kz => XS.icmpNo X0.here hx rfl (hb hby d10_21) rfl (flt hc21_3).2.2.1 kz) ?_
        refine Go.of (fun _ kz => XS.iconst X0.here hx rfl (hb hby d10_24) (XS.goto X0.here hx rfl (pc0 := 25) (pc' := 29) rfl (hb hby d10_25) (by decide) (by decide) kz)) ?_
        refine Go.ret X0 (v := some (.int (1 : Int32))) (fun h => by rw [Bd.returns] at h; cases h) Bd.notSynchronized (fun fs hr => retN X0 hx (t := .boolean) Bd.returns (by simp) (hb hby d10_29) hr) (by decide) (by decide) ?_
        show Q_rm_ltt Z _ h0 n0 _ s₁.heap _
        rw [e0]
        exact ⟨by simp [own_let, hc3_1, hc15_2, hc21_3], N0, rfl⟩
  · refine Go.of (fun _ kz => XS.icmpNo X0.here hx rfl (hb hby d10_3) rfl (flt hc3_1).1 kz) ?_
    refine Go.of (fun _ kz => XS.iloadN X0.here hx rfl (hb hby d10_6) rfl (XS.bipush X0.here hx rfl (hb hby d10_7) kz)) ?_
    by_cases hc9_4 : (90 : Int32) < cc
    · refine Go.of (fun _ kz => XS.icmpNo X0.here hx rfl (hb hby d10_9) rfl (tlt hc9_4).2.2.2 kz) ?_
      refine Go.of (fun _ kz => XS.iloadN X0.here hx rfl (hb hby d10_12) rfl (XS.bipush X0.here hx rfl (hb hby d10_13) kz)) ?_
      show Go _ _ _ _ _ s₁ (mkF m 15 #[.val (.int cc)] [(.int (97 : Int32)), (.int cc)])
      by_cases hc15_5 : cc < (97 : Int32)
      · refine Go.of (fun _ kz => XS.icmpYes X0.here hx rfl (pc0 := 15) (pc' := 28) rfl (hb hby d10_15) rfl (tlt hc15_5).1 (by decide) (by decide) kz) ?_
        refine Go.of (fun _ kz => XS.iconst X0.here hx rfl (hb hby d10_28) kz) ?_
        refine Go.ret X0 (v := some (.int (0 : Int32))) (fun h => by rw [Bd.returns] at h; cases h) Bd.notSynchronized (fun fs hr => retN X0 hx (t := .boolean) Bd.returns (by simp) (hb hby d10_29) hr) (by decide) (by decide) ?_
        show Q_rm_ltt Z _ h0 n0 _ s₁.heap _
        rw [e0]
        exact ⟨by simp [own_let, hc3_1, hc9_4, hc15_5], N0, rfl⟩
      · refine Go.of (fun _ kz => XS.icmpNo X0.here hx rfl (hb hby d10_15) rfl (flt hc15_5).1 kz) ?_
        refine Go.of (fun _ kz => XS.iloadN X0.here hx rfl (hb hby d10_18) rfl (XS.bipush X0.here hx rfl (hb hby d10_19) kz)) ?_
        by_cases hc21_6 : (122 : Int32) < cc
        · refine Go.of (fun _ kz => XS.icmpYes X0.here hx rfl (pc0 := 21) (pc' := 28) rfl (hb hby d10_21) rfl (tlt hc21_6).2.2.1 (by decide) (by decide) kz) ?_
          refine Go.of (fun _ kz => XS.iconst X0.here hx rfl (hb hby d10_28) kz) ?_
          refine Go.ret X0 (v := some (.int (0 : Int32))) (fun h => by rw [Bd.returns] at h; cases h) Bd.notSynchronized (fun fs hr => retN X0 hx (t := .boolean) Bd.returns (by simp) (hb hby d10_29) hr) (by decide) (by decide) ?_
          show Q_rm_ltt Z _ h0 n0 _ s₁.heap _
          rw [e0]
          exact ⟨by simp [own_let, hc3_1, hc9_4, hc15_5, hc21_6], N0, rfl⟩
        · refine Go.of (fun _ kz => XS.icmpNo X0.here hx rfl (hb hby d10_21) rfl (flt hc21_6).2.2.1 kz) ?_
          refine Go.of (fun _ kz => XS.iconst X0.here hx rfl (hb hby d10_24) (XS.goto X0.here hx rfl (pc0 := 25) (pc' := 29) rfl (hb hby d10_25) (by decide) (by decide) kz)) ?_
          refine Go.ret X0 (v := some (.int (1 : Int32))) (fun h => by rw [Bd.returns] at h; cases h) Bd.notSynchronized (fun fs hr => retN X0 hx (t := .boolean) Bd.returns (by simp) (hb hby d10_29) hr) (by decide) (by decide) ?_
          show Q_rm_ltt Z _ h0 n0 _ s₁.heap _
          rw [e0]
          exact ⟨by simp [own_let, hc3_1, hc9_4, hc15_5, hc21_6], N0, rfl⟩
    · refine Go.of (fun _ kz => XS.icmpYes X0.here hx rfl (pc0 := 9) (pc' := 24) rfl (hb hby d10_9) rfl (flt hc9_4).2.2.2 (by decide) (by decide) kz) ?_
      refine Go.of (fun _ kz => XS.iconst X0.here hx rfl (hb hby d10_24) (XS.goto X0.here hx rfl (pc0 := 25) (pc' := 29) rfl (hb hby d10_25) (by decide) (by decide) kz)) ?_
      show Go _ _ _ _ _ s₁ (mkF m 29 #[.val (.int cc)] [(.int (1 : Int32))])
      refine Go.ret X0 (v := some (.int (1 : Int32))) (fun h => by rw [Bd.returns] at h; cases h) Bd.notSynchronized (fun fs hr => retN X0 hx (t := .boolean) Bd.returns (by simp) (hb hby d10_29) hr) (by decide) (by decide) ?_
      show Q_rm_ltt Z _ h0 n0 _ s₁.heap _
      rw [e0]
      exact ⟨by simp [own_let, hc3_1, hc9_4], N0, rfl⟩

theorem d27_0 : decode method_3_code 0 = .ok (.iload_n 0, 1) := by decide +kernel
theorem d27_1 : decode method_3_code 1 = .ok (.invokestatic 7, 3) := by decide +kernel
theorem d27_4 : decode method_3_code 4 = .ok (.ifCond .eq 5, 3) := by decide +kernel
theorem d27_7 : decode method_3_code 7 = .ok (.iconst 1, 1) := by decide +kernel
theorem d27_8 : decode method_3_code 8 = .ok (.ireturn, 1) := by decide +kernel
theorem d27_9 : decode method_3_code 9 = .ok (.iload_n 0, 1) := by decide +kernel
theorem d27_10 : decode method_3_code 10 = .ok (.bipush 48, 2) := by decide +kernel
theorem d27_12 : decode method_3_code 12 = .ok (.if_icmp .lt 11, 3) := by decide +kernel
theorem d27_15 : decode method_3_code 15 = .ok (.iload_n 0, 1) := by decide +kernel
theorem d27_16 : decode method_3_code 16 = .ok (.bipush 57, 2) := by decide +kernel
theorem d27_18 : decode method_3_code 18 = .ok (.if_icmp .gt 5, 3) := by decide +kernel
theorem d27_21 : decode method_3_code 21 = .ok (.iconst 1, 1) := by decide +kernel
theorem d27_22 : decode method_3_code 22 = .ok (.ireturn, 1) := by decide +kernel
theorem d27_23 : decode method_3_code 23 = .ok (.iload_n 0, 1) := by decide +kernel
theorem d27_24 : decode method_3_code 24 = .ok (.bipush 95, 2) := by decide +kernel
theorem d27_26 : decode method_3_code 26 = .ok (.if_icmp .ne 7, 3) := by decide +kernel
theorem d27_29 : decode method_3_code 29 = .ok (.iconst 1, 1) := by decide +kernel
theorem d27_30 : decode method_3_code 30 = .ok (.goto 4, 3) := by decide +kernel
theorem d27_33 : decode method_3_code 33 = .ok (.iconst 0, 1) := by decide +kernel
theorem d27_34 : decode method_3_code 34 = .ok (.ireturn, 1) := by decide +kernel
theorem pn_27 : plainName "com/example/fulla/fulla/model/LatticeIsNamePinLaw" = true := by first | (simp [plainName, overriddenIn]; done) | decide +kernel
theorem pd_14 : parseMethodDescriptor "(C)Z" = some ⟨[.char], some .boolean⟩ := by decide +kernel
theorem ef_rm_lat (m : MethodId) (x0 : Int32) : entryFrame m #[(.int x0)] 1 = mkF m 0 #[.val (.int x0)] [] := by first | (simp [entryFrame, mkF, argsToLocals, Value.category]; done) | rfl
def Q_rm_lat (Z : State) (cc : Int32) (h0 : Heap) (n0 : Nat) (v : Option Value) (h : Heap) (L : List Loc) : Prop := v = some (.int (own_ltr cc)) ∧ Fr n0 L ∧ h = h0
set_option maxRecDepth 65536 in
set_option maxHeartbeats 40000000 in
theorem rm_lat (l : Launch) (Z : State) (a0 : Array Value) (hw : ∀ d ∈ tables_1, d.before a0 Z = true) (wz : List Jvm.Cond) (cc : Int32) (h0 : Heap) (n0 : Nat) (O0 : Old Z n0 h0) :
    MetFree l y_23 (head1 (Jvm.Cond.code y_23 method_3_code 1 (some .boolean) :: wz) ({ frames := 1, cells := 0, slots := 0, locals := 12 } : Room)) (fun aZ UZ => aZ = #[(.int cc)] ∧ Z.Warmed39 UZ.vm ∧ UZ.heap = h0) (fun _ _ _ _ _ => True) (fun _ UZ oZ UY => ∃ vZ LZ, oZ = .returned vZ ∧ Q_rm_lat Z cc h0 n0 vZ UY.heap LZ ∧ FrameEnd UZ oZ UY LZ ({ frames := 1, cells := 0, slots := 0, locals := 12 } : Room).cells ({ frames := 1, cells := 0, slots := 0, locals := 12 } : Room).slots) := by
  refine MetFree.of_bodySF (plainFor_of_name pn_27) hisR ?_
  intro p e s m args below meth c s₁ Bd hml0 hP hK
  obtain ⟨rfl, hZ, hh⟩ := hP
  have hx := Bd.exec
  have hby := Bd.bytes
  have hml : c.maxLocals = 1 := hml0
  have hown : s.vm.findClass "com/example/fulla/fulla/model/LatticeIsNamePinLaw" = some m.cls := findClass_of_methodNamed Bd.named
  have hnm := (name_of_methodNamed Bd.named Bd.method).1
  have X0 : Stand p l e ({ frames := 1, cells := 0, slots := 0, locals := 12 } : Room) s m #[(.int cc)] below meth c s₁ [] 0 0 := Stand.of_body Bd
  have e0 : s₁.heap = h0 := by rw [← hh, Bd.state]; rfl
  have N0 := Fr.nil n0
  have Z0 : n0 ≤ h0.size := O0.1 ▸ O0.2.1
  have K0 := Keep.refl h0 []
  show Go p e below (fun oW tW LW => FrameEnd s oW tW LW ({ frames := 1, cells := 0, slots := 0, locals := 12 } : Room).cells ({ frames := 1, cells := 0, slots := 0, locals := 12 } : Room).slots) (Q_rm_lat Z cc h0 n0) s₁ (entryFrame m #[(.int cc)] 1)
  refine Go.of (fun t kz => castTop (ef_rm_lat m cc) kz) ?_
  show Go _ _ _ _ _ s₁ (mkF m 0 #[.val (.int cc)] [])
  refine Go.of (fun _ kz => XS.iloadN X0.here hx rfl (hb hby d27_0) rfl kz) ?_
  show Go _ _ _ _ _ s₁ (mkF m 1 #[.val (.int cc)] [(.int cc)])
  refine Go.callS X0 hx hZ hown (y := y_22) (w48 hw) (w49 hw) (w7 hw) (w50 hw) (by decide) (rm_ltt l Z a0 hw [] cc h0 n0 O0) e0 0 (by decide) (by decide) (by rw [hml]; rfl) (argsL := [(.int cc)]) (rest := []) (lenOf pd_14 rfl) rfl rfl (Nat.le_of_eq rfl) (hb hby d27_1) (c2 := 0) (s2 := 0) rfl rfl (by decide) (by decide) fun v1 T1 Lc1 L1 X1 l1 hQ1 => ?_
  obtain ⟨rfl, N1q, e1⟩ := hQ1
  have N1 : Fr n0 L1 := by rw [l1]; exact Fr.app N0 N1q
  by_cases hc4_2 : (own_let cc) = (0 : Int32)
  · refine Go.of (fun _ kz => XS.ifYes X1.here hx rfl (pc0 := 4) (pc' := 9) rfl (hb hby d27_4) rfl ((if0 _ _).trans (teq hc4_2).1) (by decide) (by decide) kz) ?_
    refine Go.of (fun _ kz => XS.iloadN X1.here hx rfl (hb hby d27_9) rfl (XS.bipush X1.here hx rfl (hb hby d27_10) kz)) ?_
    by_cases hc12_3 : cc < (48 : Int32)
    · refine Go.of (fun _ kz => XS.icmpYes X1.here hx rfl (pc0 := 12) (pc' := 23) rfl (hb hby d27_12) rfl (tlt hc12_3).1 (by decide) (by decide) kz) ?_
      refine Go.of (fun _ kz => XS.iloadN X1.here hx rfl (hb hby d27_23) rfl (XS.bipush X1.here hx rfl (hb hby d27_24) kz)) ?_
      show Go _ _ _ _ _ T1 (mkF m 26 #[.val (.int cc)] [(.int (95 : Int32)), (.int cc)])
      by_cases hc26_4 : cc = (95 : Int32)
      · refine Go.of (fun _ kz => XS.icmpNo X1.here hx rfl (hb hby d27_26) rfl (teq hc26_4).2 kz) ?_
        refine Go.of (fun _ kz => XS.iconst X1.here hx rfl (hb hby d27_29) (XS.goto X1.here hx rfl (pc0 := 30) (pc' := 34) rfl (hb hby d27_30) (by decide) (by decide) kz)) ?_
        refine Go.ret X1 (v := some (.int (1 : Int32))) (fun h => by rw [Bd.returns] at h; cases h) Bd.notSynchronized (fun fs hr => retN X1 hx (t := .boolean) Bd.returns (by simp) (hb hby d27_34) hr) (by decide) (by decide) ?_
        show Q_rm_lat Z _ h0 n0 _ T1.heap _
        rw [e1]
        exact ⟨by simp [own_ltr, hc4_2, hc12_3, hc26_4], N1, rfl⟩
      · refine Go.of (fun _ kz => XS.icmpYes X1.here hx rfl (pc0 := 26) (pc' := 33) rfl (hb hby d27_26) rfl (feq hc26_4).2 (by decide) (by decide) kz) ?_
        refine Go.of (fun _ kz => XS.iconst X1.here hx rfl (hb hby d27_33) kz) ?_
        refine Go.ret X1 (v := some (.int (0 : Int32))) (fun h => by rw [Bd.returns] at h; cases h) Bd.notSynchronized (fun fs hr => retN X1 hx (t := .boolean) Bd.returns (by simp) (hb hby d27_34) hr) (by decide) (by decide) ?_
        show Q_rm_lat Z _ h0 n0 _ T1.heap _
        rw [e1]
        exact ⟨by simp [own_ltr, hc4_2, hc12_3, hc26_4], N1, rfl⟩
    · refine Go.of (fun _ kz => XS.icmpNo X1.here hx rfl (hb hby d27_12) rfl (flt hc12_3).1 kz) ?_
      refine Go.of (fun _ kz => XS.iloadN X1.here hx rfl (hb hby d27_15) rfl (XS.bipush X1.here hx rfl (hb hby d27_16) kz)) ?_
      show Go _ _ _ _ _ T1 (mkF m 18 #[.val (.int cc)] [(.int (57 : Int32)), (.int cc)])
      by_cases hc18_5 : (57 : Int32) < cc
      · refine Go.of (fun _ kz => XS.icmpYes X1.here hx rfl (pc0 := 18) (pc' := 23) rfl (hb hby d27_18) rfl (tlt hc18_5).2.2.1 (by decide) (by decide) kz) ?_
        refine Go.of (fun _ kz => XS.iloadN X1.here hx rfl (hb hby d27_23) rfl (XS.bipush X1.here hx rfl (hb hby d27_24) kz)) ?_
        by_cases hc26_6 : cc = (95 : Int32)
        · refine Go.of (fun _ kz => XS.icmpNo X1.here hx rfl (hb hby d27_26) rfl (teq hc26_6).2 kz) ?_
          refine Go.of (fun _ kz => XS.iconst X1.here hx rfl (hb hby d27_29) (XS.goto X1.here hx rfl (pc0 := 30) (pc' := 34) rfl (hb hby d27_30) (by decide) (by decide) kz)) ?_
          refine Go.ret X1 (v := some (.int (1 : Int32))) (fun h => by rw [Bd.returns] at h; cases h) Bd.notSynchronized (fun fs hr => retN X1 hx (t := .boolean) Bd.returns (by simp) (hb hby d27_34) hr) (by decide) (by decide) ?_
          show Q_rm_lat Z _ h0 n0 _ T1.heap _
          rw [e1]
          exact ⟨by simp [own_ltr, hc4_2, hc12_3, hc18_5, hc26_6], N1, rfl⟩
        · refine Go.of (fun _ kz => XS.icmpYes X1.here hx rfl (pc0 := 26) (pc' := 33) rfl (hb hby d27_26) rfl (feq hc26_6).2 (by decide) (by decide) kz) ?_
          refine Go.of (fun _ kz => XS.iconst X1.here hx rfl (hb hby d27_33) kz) ?_
          refine Go.ret X1 (v := some (.int (0 : Int32))) (fun h => by rw [Bd.returns] at h; cases h) Bd.notSynchronized (fun fs hr => retN X1 hx (t := .boolean) Bd.returns (by simp) (hb hby d27_34) hr) (by decide) (by decide) ?_
          show Q_rm_lat Z _ h0 n0 _ T1.heap _
          rw [e1]
          exact ⟨by simp [own_ltr, hc4_2, hc12_3, hc18_5, hc26_6], N1, rfl⟩
      · refine Go.of (fun _ kz => XS.icmpNo X1.here hx rfl (hb hby d27_18) rfl (flt hc18_5).2.2.1 kz) ?_
        refine Go.of (fun _ kz => XS.iconst X1.here hx rfl (hb hby d27_21) kz) ?_
        refine Go.ret X1 (v := some (.int (1 : Int32))) (fun h => by rw [Bd.returns] at h; cases h) Bd.notSynchronized (fun fs hr => retN X1 hx (t := .boolean) Bd.returns (by simp) (hb hby d27_22) hr) (by decide) (by decide) ?_
        show Q_rm_lat Z _ h0 n0 _ T1.heap _
        rw [e1]
        exact ⟨by simp [own_ltr, hc4_2, hc12_3, hc18_5], N1, rfl⟩
  · refine Go.of (fun _ kz => XS.ifNo X1.here hx rfl (hb hby d27_4) rfl ((if0 _ _).trans (feq hc4_2).1) kz) ?_
    refine Go.of (fun _ kz => XS.iconst X1.here hx rfl (hb hby d27_7) kz) ?_
    refine Go.ret X1 (v := some (.int (1 : Int32))) (fun h => by rw [Bd.returns] at h; cases h) Bd.notSynchronized (fun fs hr => retN X1 hx (t := .boolean) Bd.returns (by simp) (hb hby d27_8) hr) (by decide) (by decide) ?_
    show Q_rm_lat Z _ h0 n0 _ T1.heap _
    rw [e1]
    exact ⟨by simp [own_ltr, hc4_2], N1, rfl⟩

theorem d5_0 : decode prog_60_method_3_code 0 = .ok (.aload_n 0, 1) := by decide +kernel
theorem d5_1 : decode prog_60_method_3_code 1 = .ok (.invokevirtual 54, 3) := by decide +kernel
theorem d5_4 : decode prog_60_method_3_code 4 = .ok (.ifCond .ne 14, 3) := by decide +kernel
theorem d5_7 : decode prog_60_method_3_code 7 = .ok (.aload_n 0, 1) := by decide +kernel
theorem d5_8 : decode prog_60_method_3_code 8 = .ok (.iconst 0, 1) := by decide +kernel
theorem d5_9 : decode prog_60_method_3_code 9 = .ok (.invokevirtual 60, 3) := by decide +kernel
theorem d5_12 : decode prog_60_method_3_code 12 = .ok (.invokestatic 64, 3) := by decide +kernel
theorem d5_15 : decode prog_60_method_3_code 15 = .ok (.ifCond .ne 5, 3) := by decide +kernel
theorem d5_18 : decode prog_60_method_3_code 18 = .ok (.iconst 0, 1) := by decide +kernel
theorem d5_19 : decode prog_60_method_3_code 19 = .ok (.ireturn, 1) := by decide +kernel
theorem d5_20 : decode prog_60_method_3_code 20 = .ok (.iconst 1, 1) := by decide +kernel
theorem d5_21 : decode prog_60_method_3_code 21 = .ok (.istore_n 1, 1) := by decide +kernel
theorem d5_22 : decode prog_60_method_3_code 22 = .ok (.iload_n 1, 1) := by decide +kernel
theorem d5_23 : decode prog_60_method_3_code 23 = .ok (.aload_n 0, 1) := by decide +kernel
theorem d5_24 : decode prog_60_method_3_code 24 = .ok (.invokevirtual 68, 3) := by decide +kernel
theorem d5_27 : decode prog_60_method_3_code 27 = .ok (.if_icmp .ge 42, 3) := by decide +kernel
theorem d5_69 : decode prog_60_method_3_code 69 = .ok (.iconst 1, 1) := by decide +kernel
theorem d5_70 : decode prog_60_method_3_code 70 = .ok (.ireturn, 1) := by decide +kernel
theorem pn_5 : plainName "com/example/fulla/fulla/model/Lattice" = true := by first | (simp [plainName, overriddenIn]; done) | decide +kernel
theorem pd_15 : parseMethodDescriptor "(I)C" = some ⟨[.int], some .char⟩ := by decide +kernel
theorem pd_16 : parseMethodDescriptor "()I" = some ⟨[], some .int⟩ := by decide +kernel
theorem ef_rm_nm_1 (m : MethodId) (x0 : Addr) : entryFrame m #[(.ref x0)] 3 = mkF m 0 #[.val (.ref x0), .unset, .unset] [] := by first | (simp [entryFrame, mkF, argsToLocals, Value.category]; done) | rfl
def Q_rm_nm_1 (Z : State) (a : Addr) (b : Addr) (kb : ClassId) (cd : Int32) (z : Int32) (vs : List Value) (u0 : UInt16) (r : Int32) (csz : Int32) (vf : Value) (h0 : Heap) (n0 : Nat) (v : Option Value) (h : Heap) (L : List Loc) : Prop := v = some (.int r) ∧ Fr n0 L ∧ h = h0
set_option maxRecDepth 65536 in
set_option maxHeartbeats 40000000 in
theorem rm_nm_1 (l : Launch) (Z : State) (a0 : Array Value) (hw : ∀ d ∈ tables_1, d.before a0 Z = true) (wz : List Jvm.Cond) (a : Addr) (b : Addr) (kb : ClassId) (cd : Int32) (z : Int32) (vs : List Value) (u0 : UInt16) (r : Int32) (csz : Int32) (vf : Value) (h0 : Heap) (n0 : Nat) (O0 : Old Z n0 h0) (E : Exa Z h0 a "java/lang/String") (Fc : Fld Z h0 a "java/lang/String" "coder" "B" (.int cd)) (Fv : Fld Z h0 a "java/lang/String" "value" "[B" (.ref b)) (Vb : Arv Z h0 b kb .byte z vs (.int (0 : Int32))) (Scs : Sta Z Z.heap "java/lang/String" "COMPACT_STRINGS" "Z" (.int csz)) (hcs : ¬ csz = (0 : Int32)) (Sf : Sta Z Z.heap "jdk/internal/util/Preconditions" "SIOOBE_FORMATTER" "Ljava/util/function/BiFunction;" vf) (hvf : vf.isRef = true) (Sas : Sta Z Z.heap "java/lang/StringUTF16" "$assertionsDisabled" "Z" (.int (1 : Int32))) (Shi : Sta Z Z.heap "java/lang/StringUTF16" "HI_BYTE_SHIFT" "I" (.int (0 : Int32))) (Slo : Sta Z Z.heap "java/lang/StringUTF16" "LO_BYTE_SHIFT" "I" (.int (8 : Int32))) (hb8 : nar .byte cd = cd) (hD : (cd = (0 : Int32) ∧ z = (1 : Int32) ∧ vs = [(.int ((own_lo u0).toInt32))] ∧ (¬ (255 : Int32) < (own_ch u0))) ∨ (cd = (1 : Int32) ∧ z = (2 : Int32) ∧ vs = [(.int ((own_lo0 u0).toInt32)), (.int ((own_hi8 u0).toInt32))])) (hr : own_nm [u0] = r) :
    MetFree l y_24 (head1 (Jvm.Cond.code y_24 prog_60_method_3_code 3 (some .boolean) :: wz) ({ frames := 5, cells := 0, slots := 0, locals := 66 } : Room)) (fun aZ UZ => aZ = #[(.ref a)] ∧ Z.Warmed39 UZ.vm ∧ UZ.heap = h0) (fun _ _ _ _ _ => True) (fun _ UZ oZ UY => ∃ vZ LZ, oZ = .returned vZ ∧ Q_rm_nm_1 Z a b kb cd z vs u0 r csz vf h0 n0 vZ UY.heap LZ ∧ FrameEnd UZ oZ UY LZ ({ frames := 5, cells := 0, slots := 0, locals := 66 } : Room).cells ({ frames := 5, cells := 0, slots := 0, locals := 66 } : Room).slots) := by
  refine MetFree.of_bodySF (plainFor_of_name pn_5) hisR ?_
  intro p e s m args below meth c s₁ Bd hml0 hP hK
  obtain ⟨rfl, hZ, hh⟩ := hP
  have hx := Bd.exec
  have hby := Bd.bytes
  have hml : c.maxLocals = 3 := hml0
  have hown : s.vm.findClass "com/example/fulla/fulla/model/Lattice" = some m.cls := findClass_of_methodNamed Bd.named
  have hnm := (name_of_methodNamed Bd.named Bd.method).1
  have X0 : Stand p l e ({ frames := 5, cells := 0, slots := 0, locals := 66 } : Room) s m #[(.ref a)] below meth c s₁ [] 0 0 := Stand.of_body Bd
  have e0 : s₁.heap = h0 := by rw [← hh, Bd.state]; rfl
  have N0 := Fr.nil n0
  have Z0 : n0 ≤ h0.size := O0.1 ▸ O0.2.1
  have K0 := Keep.refl h0 []
  show Go p e below (fun oW tW LW => FrameEnd s oW tW LW ({ frames := 5, cells := 0, slots := 0, locals := 66 } : Room).cells ({ frames := 5, cells := 0, slots := 0, locals := 66 } : Room).slots) (Q_rm_nm_1 Z a b kb cd z vs u0 r csz vf h0 n0) s₁ (entryFrame m #[(.ref a)] 3)
  refine Go.of (fun t kz => castTop (ef_rm_nm_1 m a) kz) ?_
  have hemp : (if z = (0 : Int32) then (1 : Int32) else 0) = 0 := by rcases hD with ⟨-, rfl, -⟩ | ⟨-, rfl, -⟩ <;> decide
  have hlen : (z >>> (cd &&& 31)) = (1 : Int32) := by rcases hD with ⟨rfl, rfl, -⟩ | ⟨rfl, rfl, -⟩ <;> decide
  have hch0 : (cd = (0 : Int32) ∧ own_LP vs (0 : Int32) z (own_ch u0)) ∨ (cd = (1 : Int32) ∧ own_UP vs (0 : Int32) z (own_ch u0)) := by
    rcases hD with ⟨rfl, rfl, rfl, hl⟩ | ⟨rfl, rfl, rfl⟩
    · exact Or.inl ⟨rfl, ⟨by decide, by decide⟩, _, rfl, own_lat u0 hl⟩
    · exact Or.inr ⟨rfl, ⟨by decide, by decide⟩, ⟨by decide, by decide⟩, ⟨by decide, by decide⟩, _, _, rfl, rfl, own_get u0⟩
  show Go _ _ _ _ _ s₁ (mkF m 0 #[.val (.ref a), .unset, .unset] [])
  refine Go.of (fun _ kz => XS.aloadN X0.here hx rfl (hb hby d5_0) rfl rfl kz) ?_
  show Go _ _ _ _ _ s₁ (mkF m 1 #[.val (.ref a), .unset, .unset] [(.ref a)])
  refine Go.callV X0 hx hZ hown (y := y_6) (z := y_6) (w32 hw) (w33 hw) (notFace_of_selects (args := #[]) (mvT hZ (w35 hw))) (w35 hw) (w34 hw) (w4 hw) (w36 hw) (by decide) (a := a) (rm_emp l Z a0 hw [] a b kb z vs 0 h0 n0 O0 Fv Vb hemp) e0 E 0 (by decide) (by decide) (by rw [hml]; rfl) (argsL := []) (rest := []) (lenOf pd_6 rfl) rfl rfl (Nat.le_of_eq rfl) (hb hby d5_1) (c2 := 0) (s2 := 0) rfl rfl (by decide) (by decide) fun v1 T1 Lc1 L1 X1 l1 hQ1 => ?_
  obtain ⟨rfl, N1q, e1⟩ := hQ1
  have N1 : Fr n0 L1 := by rw [l1]; exact Fr.app N0 N1q
  refine Go.of (fun _ kz => XS.ifNo X1.here hx rfl (hb hby d5_4) rfl ((if0 _ _).trans (teq (by decide : (0 : Int32) = (0 : Int32))).2) kz) ?_
  refine Go.of (fun _ kz => XS.aloadN X1.here hx rfl (hb hby d5_7) rfl rfl (XS.iconst X1.here hx rfl (hb hby d5_8) kz)) ?_
  show Go _ _ _ _ _ T1 (mkF m 9 #[.val (.ref a), .unset, .unset] [(.int (0 : Int32)), (.ref a)])
  refine Go.callV X1 hx hZ hown (y := y_11) (z := y_11) (w51 hw) (w52 hw) (notFace_of_selects (args := #[]) (mvT hZ (w54 hw))) (w54 hw) (w53 hw) (w4 hw) (w55 hw) (by decide) (a := a) (rm_ch l Z a0 hw [] a (0 : Int32) cd b kb z vs (own_ch u0) csz vf h0 n0 O0 E Fc Fv Vb Scs hcs Sf hvf Sas Shi Slo (own_narc u0) hch0) e1 E 0 (by decide) (by decide) (by rw [hml]; rfl) (argsL := [(.int (0 : Int32))]) (rest := []) (lenOf pd_15 rfl) rfl rfl (Nat.le_of_eq rfl) (hb hby d5_9) (c2 := 0) (s2 := 0) rfl rfl (by decide) (by decide) fun v2 T2 Lc2 L2 X2 l2 hQ2 => ?_
  obtain ⟨rfl, N2q, e2⟩ := hQ2
  have N2 : Fr n0 L2 := by rw [l2]; exact Fr.app N1 N2q
  show Go _ _ _ _ _ T2 (mkF m 12 #[.val (.ref a), .unset, .unset] [(.int (own_ch u0))])
  refine Go.callS X2 hx hZ hown (y := y_21) (w73 hw) (w74 hw) (w30 hw) (w75 hw) (by decide) (rm_ial l Z a0 hw [] (own_ch u0) h0 n0 O0) e2 0 (by decide) (by decide) (by rw [hml]; rfl) (argsL := [(.int (own_ch u0))]) (rest := []) (lenOf pd_14 rfl) rfl rfl (Nat.le_of_eq rfl) (hb hby d5_12) (c2 := 0) (s2 := 0) rfl rfl (by decide) (by decide) fun v3 T3 Lc3 L3 X3 l3 hQ3 => ?_
  obtain ⟨rfl, N3q, e3⟩ := hQ3
  have N3 : Fr n0 L3 := by rw [l3]; exact Fr.app N2 N3q
  by_cases hc15_4 : (own_let (own_ch u0)) = (0 : Int32)
  · refine Go.of (fun _ kz => XS.ifNo X3.here hx rfl (hb hby d5_15) rfl ((if0 _ _).trans (teq hc15_4).2) kz) ?_
    refine Go.of (fun _ kz => XS.iconst X3.here hx rfl (hb hby d5_18) kz) ?_
    refine Go.ret X3 (v := some (.int (0 : Int32))) (fun h => by rw [Bd.returns] at h; cases h) Bd.notSynchronized (fun fs hr => retN X3 hx (t := .boolean) Bd.returns (by simp) (hb hby d5_19) hr) (by decide) (by decide) ?_
    show Q_rm_nm_1 Z _ _ _ _ _ _ _ _ _ _ h0 n0 _ T3.heap _
    rw [e3]
    exact ⟨by rw [← hr]; simp [own_nm, own_all, hc15_4], N3, rfl⟩
  · refine Go.of (fun _ kz => XS.ifYes X3.here hx rfl (pc0 := 15) (pc' := 20) rfl (hb hby d5_15) rfl ((if0 _ _).trans (feq hc15_4).2) (by decide) (by decide) kz) ?_
    refine Go.of (fun _ kz => XS.iconst X3.here hx rfl (hb hby d5_20) (XS.istoreN X3.here hx rfl (hb hby d5_21) rfl (l' := #[.val (.ref a), .val (.int (1 : Int32)), .unset]) rfl (XS.iloadN X3.here hx rfl (hb hby d5_22) rfl (XS.aloadN X3.here hx rfl (hb hby d5_23) rfl rfl kz)))) ?_
    show Go _ _ _ _ _ T3 (mkF m 24 #[.val (.ref a), .val (.int (1 : Int32)), .unset] [(.ref a), (.int (1 : Int32))])
    refine Go.callV X3 hx hZ hown (y := y_5) (z := y_5) (w105 hw) (w106 hw) (notFace_of_selects (args := #[]) (mvT hZ (w108 hw))) (w108 hw) (w107 hw) (w4 hw) (w109 hw) (by decide) (a := a) (rm_len l Z a0 hw [] a cd csz b kb z vs (1 : Int32) h0 n0 O0 E Fc Scs hcs hb8 Fv Vb hlen) e3 E 1 (by decide) (by decide) (by rw [hml]; rfl) (argsL := []) (rest := [(.int (1 : Int32))]) (lenOf pd_16 rfl) rfl rfl (Nat.le_of_eq rfl) (hb hby d5_24) (c2 := 0) (s2 := 0) rfl rfl (by decide) (by decide) fun v5 T5 Lc5 L5 X5 l5 hQ5 => ?_
    obtain ⟨rfl, N5q, e5⟩ := hQ5
    have N5 : Fr n0 L5 := by rw [l5]; exact Fr.app N3 N5q
    refine Go.of (fun _ kz => XS.icmpYes X5.here hx rfl (pc0 := 27) (pc' := 69) rfl (hb hby d5_27) rfl (flt (by decide : ¬ (1 : Int32) < (1 : Int32))).2.1 (by decide) (by decide) kz) ?_
    refine Go.of (fun _ kz => XS.iconst X5.here hx rfl (hb hby d5_69) kz) ?_
    refine Go.ret X5 (v := some (.int (1 : Int32))) (fun h => by rw [Bd.returns] at h; cases h) Bd.notSynchronized (fun fs hr => retN X5 hx (t := .boolean) Bd.returns (by simp) (hb hby d5_70) hr) (by decide) (by decide) ?_
    show Q_rm_nm_1 Z _ _ _ _ _ _ _ _ _ _ h0 n0 _ T5.heap _
    rw [e5]
    exact ⟨by rw [← hr]; simp [own_nm, own_all, hc15_4], N5, rfl⟩

theorem d5_30 : decode prog_60_method_3_code 30 = .ok (.aload_n 0, 1) := by decide +kernel
theorem d5_31 : decode prog_60_method_3_code 31 = .ok (.iload_n 1, 1) := by decide +kernel
theorem d5_32 : decode prog_60_method_3_code 32 = .ok (.invokevirtual 60, 3) := by decide +kernel
theorem d5_35 : decode prog_60_method_3_code 35 = .ok (.istore_n 2, 1) := by decide +kernel
theorem d5_36 : decode prog_60_method_3_code 36 = .ok (.iload_n 2, 1) := by decide +kernel
theorem d5_37 : decode prog_60_method_3_code 37 = .ok (.invokestatic 64, 3) := by decide +kernel
theorem d5_40 : decode prog_60_method_3_code 40 = .ok (.ifCond .ne 23, 3) := by decide +kernel
theorem d5_43 : decode prog_60_method_3_code 43 = .ok (.iload_n 2, 1) := by decide +kernel
theorem d5_44 : decode prog_60_method_3_code 44 = .ok (.bipush 48, 2) := by decide +kernel
theorem d5_46 : decode prog_60_method_3_code 46 = .ok (.if_icmp .lt 9, 3) := by decide +kernel
theorem d5_49 : decode prog_60_method_3_code 49 = .ok (.iload_n 2, 1) := by decide +kernel
theorem d5_50 : decode prog_60_method_3_code 50 = .ok (.bipush 57, 2) := by decide +kernel
theorem d5_52 : decode prog_60_method_3_code 52 = .ok (.if_icmp .le 11, 3) := by decide +kernel
theorem d5_55 : decode prog_60_method_3_code 55 = .ok (.iload_n 2, 1) := by decide +kernel
theorem d5_56 : decode prog_60_method_3_code 56 = .ok (.bipush 95, 2) := by decide +kernel
theorem d5_58 : decode prog_60_method_3_code 58 = .ok (.if_icmp .eq 5, 3) := by decide +kernel
theorem d5_61 : decode prog_60_method_3_code 61 = .ok (.iconst 0, 1) := by decide +kernel
theorem d5_62 : decode prog_60_method_3_code 62 = .ok (.ireturn, 1) := by decide +kernel
theorem d5_63 : decode prog_60_method_3_code 63 = .ok (.iinc 1 1, 3) := by decide +kernel
theorem d5_66 : decode prog_60_method_3_code 66 = .ok (.goto (-44), 3) := by decide +kernel
theorem ef_rm_nm_2 (m : MethodId) (x0 : Addr) : entryFrame m #[(.ref x0)] 3 = mkF m 0 #[.val (.ref x0), .unset, .unset] [] := by first | (simp [entryFrame, mkF, argsToLocals, Value.category]; done) | rfl
def Q_rm_nm_2 (Z : State) (a : Addr) (b : Addr) (kb : ClassId) (cd : Int32) (z : Int32) (vs : List Value) (u0 : UInt16) (u1 : UInt16) (r : Int32) (csz : Int32) (vf : Value) (h0 : Heap) (n0 : Nat) (v : Option Value) (h : Heap) (L : List Loc) : Prop := v = some (.int r) ∧ Fr n0 L ∧ h = h0
set_option maxRecDepth 65536 in
set_option maxHeartbeats 40000000 in
theorem rm_nm_2 (l : Launch) (Z : State) (a0 : Array Value) (hw : ∀ d ∈ tables_1, d.before a0 Z = true) (wz : List Jvm.Cond) (a : Addr) (b : Addr) (kb : ClassId) (cd : Int32) (z : Int32) (vs : List Value) (u0 : UInt16) (u1 : UInt16) (r : Int32) (csz : Int32) (vf : Value) (h0 : Heap) (n0 : Nat) (O0 : Old Z n0 h0) (E : Exa Z h0 a "java/lang/String") (Fc : Fld Z h0 a "java/lang/String" "coder" "B" (.int cd)) (Fv : Fld Z h0 a "java/lang/String" "value" "[B" (.ref b)) (Vb : Arv Z h0 b kb .byte z vs (.int (0 : Int32))) (Scs : Sta Z Z.heap "java/lang/String" "COMPACT_STRINGS" "Z" (.int csz)) (hcs : ¬ csz = (0 : Int32)) (Sf : Sta Z Z.heap "jdk/internal/util/Preconditions" "SIOOBE_FORMATTER" "Ljava/util/function/BiFunction;" vf) (hvf : vf.isRef = true) (Sas : Sta Z Z.heap "java/lang/StringUTF16" "$assertionsDisabled" "Z" (.int (1 : Int32))) (Shi : Sta Z Z.heap "java/lang/StringUTF16" "HI_BYTE_SHIFT" "I" (.int (0 : Int32))) (Slo : Sta Z Z.heap "java/lang/StringUTF16" "LO_BYTE_SHIFT" "I" (.int (8 : Int32))) (hb8 : nar .byte cd = cd) (hD : (cd = (0 : Int32) ∧ z = (2 : Int32) ∧ vs = [(.int ((own_lo u0).toInt32)), (.int ((own_lo u1).toInt32))] ∧ (¬ (255 : Int32) < (own_ch u0) ∧ ¬ (255 : Int32) < (own_ch u1))) ∨ (cd = (1 : Int32) ∧ z = (4 : Int32) ∧ vs = [(.int ((own_lo0 u0).toInt32)), (.int ((own_hi8 u0).toInt32)), (.int ((own_lo0 u1).toInt32)), (.int ((own_hi8 u1).toInt32))])) (hr : own_nm [u0, u1] = r) :
    MetFree l y_24 (head1 (Jvm.Cond.code y_24 prog_60_method_3_code 3 (some .boolean) :: wz) ({ frames := 5, cells := 0, slots := 0, locals := 66 } : Room)) (fun aZ UZ => aZ = #[(.ref a)] ∧ Z.Warmed39 UZ.vm ∧ UZ.heap = h0) (fun _ _ _ _ _ => True) (fun _ UZ oZ UY => ∃ vZ LZ, oZ = .returned vZ ∧ Q_rm_nm_2 Z a b kb cd z vs u0 u1 r csz vf h0 n0 vZ UY.heap LZ ∧ FrameEnd UZ oZ UY LZ ({ frames := 5, cells := 0, slots := 0, locals := 66 } : Room).cells ({ frames := 5, cells := 0, slots := 0, locals := 66 } : Room).slots) := by
  refine MetFree.of_bodySF (plainFor_of_name pn_5) hisR ?_
  intro p e s m args below meth c s₁ Bd hml0 hP hK
  obtain ⟨rfl, hZ, hh⟩ := hP
  have hx := Bd.exec
  have hby := Bd.bytes
  have hml : c.maxLocals = 3 := hml0
  have hown : s.vm.findClass "com/example/fulla/fulla/model/Lattice" = some m.cls := findClass_of_methodNamed Bd.named
  have hnm := (name_of_methodNamed Bd.named Bd.method).1
  have X0 : Stand p l e ({ frames := 5, cells := 0, slots := 0, locals := 66 } : Room) s m #[(.ref a)] below meth c s₁ [] 0 0 := Stand.of_body Bd
  have e0 : s₁.heap = h0 := by rw [← hh, Bd.state]; rfl
  have N0 := Fr.nil n0
  have Z0 : n0 ≤ h0.size := O0.1 ▸ O0.2.1
  have K0 := Keep.refl h0 []
  show Go p e below (fun oW tW LW => FrameEnd s oW tW LW ({ frames := 5, cells := 0, slots := 0, locals := 66 } : Room).cells ({ frames := 5, cells := 0, slots := 0, locals := 66 } : Room).slots) (Q_rm_nm_2 Z a b kb cd z vs u0 u1 r csz vf h0 n0) s₁ (entryFrame m #[(.ref a)] 3)
  refine Go.of (fun t kz => castTop (ef_rm_nm_2 m a) kz) ?_
  have hemp : (if z = (0 : Int32) then (1 : Int32) else 0) = 0 := by rcases hD with ⟨-, rfl, -⟩ | ⟨-, rfl, -⟩ <;> decide
  have hlen : (z >>> (cd &&& 31)) = (2 : Int32) := by rcases hD with ⟨rfl, rfl, -⟩ | ⟨rfl, rfl, -⟩ <;> decide
  have hch0 : (cd = (0 : Int32) ∧ own_LP vs (0 : Int32) z (own_ch u0)) ∨ (cd = (1 : Int32) ∧ own_UP vs (0 : Int32) z (own_ch u0)) := by
    rcases hD with ⟨rfl, rfl, rfl, hl⟩ | ⟨rfl, rfl, rfl⟩
    · exact Or.inl ⟨rfl, ⟨by decide, by decide⟩, _, rfl, own_lat u0 hl.1⟩
    · exact Or.inr ⟨rfl, ⟨by decide, by decide⟩, ⟨by decide, by decide⟩, ⟨by decide, by decide⟩, _, _, rfl, rfl, own_get u0⟩
  have hch1 : (cd = (0 : Int32) ∧ own_LP vs (1 : Int32) z (own_ch u1)) ∨ (cd = (1 : Int32) ∧ own_UP vs (1 : Int32) z (own_ch u1)) := by
    rcases hD with ⟨rfl, rfl, rfl, hl⟩ | ⟨rfl, rfl, rfl⟩
    · exact Or.inl ⟨rfl, ⟨by decide, by decide⟩, _, rfl, own_lat u1 hl.2⟩
    · exact Or.inr ⟨rfl, ⟨by decide, by decide⟩, ⟨by decide, by decide⟩, ⟨by decide, by decide⟩, _, _, rfl, rfl, own_get u1⟩
  show Go _ _ _ _ _ s₁ (mkF m 0 #[.val (.ref a), .unset, .unset] [])
  refine Go.of (fun _ kz => XS.aloadN X0.here hx rfl (hb hby d5_0) rfl rfl kz) ?_
  show Go _ _ _ _ _ s₁ (mkF m 1 #[.val (.ref a), .unset, .unset] [(.ref a)])
  refine Go.callV X0 hx hZ hown (y := y_6) (z := y_6) (w32 hw) (w33 hw) (notFace_of_selects (args := #[]) (mvT hZ (w35 hw))) (w35 hw) (w34 hw) (w4 hw) (w36 hw) (by decide) (a := a) (rm_emp l Z a0 hw [] a b kb z vs 0 h0 n0 O0 Fv Vb hemp) e0 E 0 (by decide) (by decide) (by rw [hml]; rfl) (argsL := []) (rest := []) (lenOf pd_6 rfl) rfl rfl (Nat.le_of_eq rfl) (hb hby d5_1) (c2 := 0) (s2 := 0) rfl rfl (by decide) (by decide) fun v1 T1 Lc1 L1 X1 l1 hQ1 => ?_
  obtain ⟨rfl, N1q, e1⟩ := hQ1
  have N1 : Fr n0 L1 := by rw [l1]; exact Fr.app N0 N1q
  refine Go.of (fun _ kz => XS.ifNo X1.here hx rfl (hb hby d5_4) rfl ((if0 _ _).trans (teq (by decide : (0 : Int32) = (0 : Int32))).2) kz) ?_
  refine Go.of (fun _ kz => XS.aloadN X1.here hx rfl (hb hby d5_7) rfl rfl (XS.iconst X1.here hx rfl (hb hby d5_8) kz)) ?_
  show Go _ _ _ _ _ T1 (mkF m 9 #[.val (.ref a), .unset, .unset] [(.int (0 : Int32)), (.ref a)])
  refine Go.callV X1 hx hZ hown (y := y_11) (z := y_11) (w51 hw) (w52 hw) (notFace_of_selects (args := #[]) (mvT hZ (w54 hw))) (w54 hw) (w53 hw) (w4 hw) (w55 hw) (by decide) (a := a) (rm_ch l Z a0 hw [] a (0 : Int32) cd b kb z vs (own_ch u0) csz vf h0 n0 O0 E Fc Fv Vb Scs hcs Sf hvf Sas Shi Slo (own_narc u0) hch0) e1 E 0 (by decide) (by decide) (by rw [hml]; rfl) (argsL := [(.int (0 : Int32))]) (rest := []) (lenOf pd_15 rfl) rfl rfl (Nat.le_of_eq rfl) (hb hby d5_9) (c2 := 0) (s2 := 0) rfl rfl (by decide) (by decide) fun v2 T2 Lc2 L2 X2 l2 hQ2 => ?_
  obtain ⟨rfl, N2q, e2⟩ := hQ2
  have N2 : Fr n0 L2 := by rw [l2]; exact Fr.app N1 N2q
  show Go _ _ _ _ _ T2 (mkF m 12 #[.val (.ref a), .unset, .unset] [(.int (own_ch u0))])
  refine Go.callS X2 hx hZ hown (y := y_21) (w73 hw) (w74 hw) (w30 hw) (w75 hw) (by decide) (rm_ial l Z a0 hw [] (own_ch u0) h0 n0 O0) e2 0 (by decide) (by decide) (by rw [hml]; rfl) (argsL := [(.int (own_ch u0))]) (rest := []) (lenOf pd_14 rfl) rfl rfl (Nat.le_of_eq rfl) (hb hby d5_12) (c2 := 0) (s2 := 0) rfl rfl (by decide) (by decide) fun v3 T3 Lc3 L3 X3 l3 hQ3 => ?_
  obtain ⟨rfl, N3q, e3⟩ := hQ3
  have N3 : Fr n0 L3 := by rw [l3]; exact Fr.app N2 N3q
  by_cases hc15_4 : (own_let (own_ch u0)) = (0 : Int32)
  · refine Go.of (fun _ kz => XS.ifNo X3.here hx rfl (hb hby d5_15) rfl ((if0 _ _).trans (teq hc15_4).2) kz) ?_
    refine Go.of (fun _ kz => XS.iconst X3.here hx rfl (hb hby d5_18) kz) ?_
    refine Go.ret X3 (v := some (.int (0 : Int32))) (fun h => by rw [Bd.returns] at h; cases h) Bd.notSynchronized (fun fs hr => retN X3 hx (t := .boolean) Bd.returns (by simp) (hb hby d5_19) hr) (by decide) (by decide) ?_
    show Q_rm_nm_2 Z _ _ _ _ _ _ _ _ _ _ _ h0 n0 _ T3.heap _
    rw [e3]
    exact ⟨by rw [← hr]; simp [own_nm, own_all, hc15_4], N3, rfl⟩
  · refine Go.of (fun _ kz => XS.ifYes X3.here hx rfl (pc0 := 15) (pc' := 20) rfl (hb hby d5_15) rfl ((if0 _ _).trans (feq hc15_4).2) (by decide) (by decide) kz) ?_
    refine Go.of (fun _ kz => XS.iconst X3.here hx rfl (hb hby d5_20) (XS.istoreN X3.here hx rfl (hb hby d5_21) rfl (l' := #[.val (.ref a), .val (.int (1 : Int32)), .unset]) rfl (XS.iloadN X3.here hx rfl (hb hby d5_22) rfl (XS.aloadN X3.here hx rfl (hb hby d5_23) rfl rfl kz)))) ?_
    show Go _ _ _ _ _ T3 (mkF m 24 #[.val (.ref a), .val (.int (1 : Int32)), .unset] [(.ref a), (.int (1 : Int32))])
    refine Go.callV X3 hx hZ hown (y := y_5) (z := y_5) (w105 hw) (w106 hw) (notFace_of_selects (args := #[]) (mvT hZ (w108 hw))) (w108 hw) (w107 hw) (w4 hw) (w109 hw) (by decide) (a := a) (rm_len l Z a0 hw [] a cd csz b kb z vs (2 : Int32) h0 n0 O0 E Fc Scs hcs hb8 Fv Vb hlen) e3 E 1 (by decide) (by decide) (by rw [hml]; rfl) (argsL := []) (rest := [(.int (1 : Int32))]) (lenOf pd_16 rfl) rfl rfl (Nat.le_of_eq rfl) (hb hby d5_24) (c2 := 0) (s2 := 0) rfl rfl (by decide) (by decide) fun v5 T5 Lc5 L5 X5 l5 hQ5 => ?_
    obtain ⟨rfl, N5q, e5⟩ := hQ5
    have N5 : Fr n0 L5 := by rw [l5]; exact Fr.app N3 N5q
    refine Go.of (fun _ kz => XS.icmpNo X5.here hx rfl (hb hby d5_27) rfl (tlt (by decide : (1 : Int32) < (2 : Int32))).2.1 kz) ?_
    refine Go.of (fun _ kz => XS.aloadN X5.here hx rfl (hb hby d5_30) rfl rfl (XS.iloadN X5.here hx rfl (hb hby d5_31) rfl kz)) ?_
    show Go _ _ _ _ _ T5 (mkF m 32 #[.val (.ref a), .val (.int (1 : Int32)), .unset] [(.int (1 : Int32)), (.ref a)])
    refine Go.callV X5 hx hZ hown (y := y_11) (z := y_11) (w51 hw) (w52 hw) (notFace_of_selects (args := #[]) (mvT hZ (w54 hw))) (w54 hw) (w53 hw) (w4 hw) (w55 hw) (by decide) (a := a) (rm_ch l Z a0 hw [] a (1 : Int32) cd b kb z vs (own_ch u1) csz vf h0 n0 O0 E Fc Fv Vb Scs hcs Sf hvf Sas Shi Slo (own_narc u1) hch1) e5 E 0 (by decide) (by decide) (by rw [hml]; rfl) (argsL := [(.int (1 : Int32))]) (rest := []) (lenOf pd_15 rfl) rfl rfl (Nat.le_of_eq rfl) (hb hby d5_32) (c2 := 0) (s2 := 0) rfl rfl (by decide) (by decide) fun v6 T6 Lc6 L6 X6 l6 hQ6 => ?_
    obtain ⟨rfl, N6q, e6⟩ := hQ6
    have N6 : Fr n0 L6 := by rw [l6]; exact Fr.app N5 N6q
    refine Go.of (fun _ kz => XS.istoreN X6.here hx rfl (hb hby d5_35) rfl (l' := #[.val (.ref a), .val (.int (1 : Int32)), .val (.int (own_ch u1))]) rfl (XS.iloadN X6.here hx rfl (hb hby d5_36) rfl kz)) ?_
    show Go _ _ _ _ _ T6 (mkF m 37 #[.val (.ref a), .val (.int (1 : Int32)), .val (.int (own_ch u1))] [(.int (own_ch u1))])
    refine Go.callS X6 hx hZ hown (y := y_21) (w73 hw) (w74 hw) (w30 hw) (w75 hw) (by decide) (rm_ial l Z a0 hw [] (own_ch u1) h0 n0 O0) e6 0 (by decide) (by decide) (by rw [hml]; rfl) (argsL := [(.int (own_ch u1))]) (rest := []) (lenOf pd_14 rfl) rfl rfl (Nat.le_of_eq rfl) (hb hby d5_37) (c2 := 0) (s2 := 0) rfl rfl (by decide) (by decide) fun v7 T7 Lc7 L7 X7 l7 hQ7 => ?_
    obtain ⟨rfl, N7q, e7⟩ := hQ7
    have N7 : Fr n0 L7 := by rw [l7]; exact Fr.app N6 N7q
    show Go _ _ _ _ _ T7 (mkF m 40 #[.val (.ref a), .val (.int (1 : Int32)), .val (.int (own_ch u1))] [(.int (own_let (own_ch u1)))])
    have hgo1 : ¬ own_ltr (own_ch u1) = (0 : Int32) → Go p e below (fun oW tW LW => FrameEnd s oW tW LW ({ frames := 5, cells := 0, slots := 0, locals := 66 } : Room).cells ({ frames := 5, cells := 0, slots := 0, locals := 66 } : Room).slots) (Q_rm_nm_2 Z a b kb cd z vs u0 u1 r csz vf h0 n0) T7 (mkF m 63 #[.val (.ref a), .val (.int (1 : Int32)), .val (.int (own_ch u1))] []) := by
      intro hj1
      show Go _ _ _ _ _ T7 (mkF m 63 #[.val (.ref a), .val (.int (1 : Int32)), .val (.int (own_ch u1))] [])
      refine Go.of (fun _ kz => XS.iinc X7.here hx rfl (hb hby d5_63) rfl (l' := #[.val (.ref a), .val (.int (2 : Int32)), .val (.int (own_ch u1))]) rfl (XS.goto X7.here hx rfl (pc0 := 66) (pc' := 22) rfl (hb hby d5_66) (by decide) (by decide) (XS.iloadN X7.here hx rfl (hb hby d5_22) rfl (XS.aloadN X7.here hx rfl (hb hby d5_23) rfl rfl kz)))) ?_
      show Go _ _ _ _ _ T7 (mkF m 24 #[.val (.ref a), .val (.int (2 : Int32)), .val (.int (own_ch u1))] [(.ref a), (.int (2 : Int32))])
      refine Go.callV X7 hx hZ hown (y := y_5) (z := y_5) (w105 hw) (w106 hw) (notFace_of_selects (args := #[]) (mvT hZ (w108 hw))) (w108 hw) (w107 hw) (w4 hw) (w109 hw) (by decide) (a := a) (rm_len l Z a0 hw [] a cd csz b kb z vs (2 : Int32) h0 n0 O0 E Fc Scs hcs hb8 Fv Vb hlen) e7 E 1 (by decide) (by decide) (by rw [hml]; rfl) (argsL := []) (rest := [(.int (2 : Int32))]) (lenOf pd_16 rfl) rfl rfl (Nat.le_of_eq rfl) (hb hby d5_24) (c2 := 0) (s2 := 0) rfl rfl (by decide) (by decide) fun v8 T8 Lc8 L8 X8 l8 hQ8 => ?_
      obtain ⟨rfl, N8q, e8⟩ := hQ8
      have N8 : Fr n0 L8 := by rw [l8]; exact Fr.app N7 N8q
      refine Go.of (fun _ kz => XS.icmpYes X8.here hx rfl (pc0 := 27) (pc' := 69) rfl (hb hby d5_27) rfl (flt (by decide : ¬ (2 : Int32) < (2 : Int32))).2.1 (by decide) (by decide) kz) ?_
      refine Go.of (fun _ kz => XS.iconst X8.here hx rfl (hb hby d5_69) kz) ?_
      refine Go.ret X8 (v := some (.int (1 : Int32))) (fun h => by rw [Bd.returns] at h; cases h) Bd.notSynchronized (fun fs hr => retN X8 hx (t := .boolean) Bd.returns (by simp) (hb hby d5_70) hr) (by decide) (by decide) ?_
      show Q_rm_nm_2 Z _ _ _ _ _ _ _ _ _ _ _ h0 n0 _ T8.heap _
      rw [e8]
      exact ⟨by rw [← hr]; simp [own_nm, own_all, hc15_4, hj1], N8, rfl⟩
    by_cases hc40_9 : (own_let (own_ch u1)) = (0 : Int32)
    · refine Go.of (fun _ kz => XS.ifNo X7.here hx rfl (hb hby d5_40) rfl ((if0 _ _).trans (teq hc40_9).2) kz) ?_
      refine Go.of (fun _ kz => XS.iloadN X7.here hx rfl (hb hby d5_43) rfl (XS.bipush X7.here hx rfl (hb hby d5_44) kz)) ?_
      by_cases hc46_10 : (own_ch u1) < (48 : Int32)
      · refine Go.of (fun _ kz => XS.icmpYes X7.here hx rfl (pc0 := 46) (pc' := 55) rfl (hb hby d5_46) rfl (tlt hc46_10).1 (by decide) (by decide) kz) ?_
        refine Go.of (fun _ kz => XS.iloadN X7.here hx rfl (hb hby d5_55) rfl (XS.bipush X7.here hx rfl (hb hby d5_56) kz)) ?_
        by_cases hc58_11 : (own_ch u1) = (95 : Int32)
        · refine Go.of (fun _ kz => XS.icmpYes X7.here hx rfl (pc0 := 58) (pc' := 63) rfl (hb hby d5_58) rfl (teq hc58_11).1 (by decide) (by decide) kz) ?_
          show Go _ _ _ _ _ T7 (mkF m 63 #[.val (.ref a), .val (.int (1 : Int32)), .val (.int (own_ch u1))] [])
          exact hgo1 (by simp [own_ltr, hc40_9, hc46_10, hc58_11])
        · refine Go.of (fun _ kz => XS.icmpNo X7.here hx rfl (hb hby d5_58) rfl (feq hc58_11).1 kz) ?_
          show Go _ _ _ _ _ T7 (mkF m 61 #[.val (.ref a), .val (.int (1 : Int32)), .val (.int (own_ch u1))] [])
          have hj1 : own_ltr (own_ch u1) = (0 : Int32) := by simp [own_ltr, hc40_9, hc46_10, hc58_11]
          refine Go.of (fun _ kz => XS.iconst X7.here hx rfl (hb hby d5_61) kz) ?_
          refine Go.ret X7 (v := some (.int (0 : Int32))) (fun h => by rw [Bd.returns] at h; cases h) Bd.notSynchronized (fun fs hr => retN X7 hx (t := .boolean) Bd.returns (by simp) (hb hby d5_62) hr) (by decide) (by decide) ?_
          show Q_rm_nm_2 Z _ _ _ _ _ _ _ _ _ _ _ h0 n0 _ T7.heap _
          rw [e7]
          exact ⟨by rw [← hr]; simp [own_nm, own_all, hc15_4, hj1], N7, rfl⟩
      · refine Go.of (fun _ kz => XS.icmpNo X7.here hx rfl (hb hby d5_46) rfl (flt hc46_10).1 kz) ?_
        refine Go.of (fun _ kz => XS.iloadN X7.here hx rfl (hb hby d5_49) rfl (XS.bipush X7.here hx rfl (hb hby d5_50) kz)) ?_
        by_cases hc52_12 : (57 : Int32) < (own_ch u1)
        · refine Go.of (fun _ kz => XS.icmpNo X7.here hx rfl (hb hby d5_52) rfl (tlt hc52_12).2.2.2 kz) ?_
          show Go _ _ _ _ _ T7 (mkF m 55 #[.val (.ref a), .val (.int (1 : Int32)), .val (.int (own_ch u1))] [])
          refine Go.of (fun _ kz => XS.iloadN X7.here hx rfl (hb hby d5_55) rfl (XS.bipush X7.here hx rfl (hb hby d5_56) kz)) ?_
          by_cases hc58_13 : (own_ch u1) = (95 : Int32)
          · refine Go.of (fun _ kz => XS.icmpYes X7.here hx rfl (pc0 := 58) (pc' := 63) rfl (hb hby d5_58) rfl (teq hc58_13).1 (by decide) (by decide) kz) ?_
            show Go _ _ _ _ _ T7 (mkF m 63 #[.val (.ref a), .val (.int (1 : Int32)), .val (.int (own_ch u1))] [])
            exact hgo1 (by simp [own_ltr, hc40_9, hc46_10, hc52_12, hc58_13])
          · refine Go.of (fun _ kz => XS.icmpNo X7.here hx rfl (hb hby d5_58) rfl (feq hc58_13).1 kz) ?_
            show Go _ _ _ _ _ T7 (mkF m 61 #[.val (.ref a), .val (.int (1 : Int32)), .val (.int (own_ch u1))] [])
            have hj1 : own_ltr (own_ch u1) = (0 : Int32) := by simp [own_ltr, hc40_9, hc46_10, hc52_12, hc58_13]
            refine Go.of (fun _ kz => XS.iconst X7.here hx rfl (hb hby d5_61) kz) ?_
            refine Go.ret X7 (v := some (.int (0 : Int32))) (fun h => by rw [Bd.returns] at h; cases h) Bd.notSynchronized (fun fs hr => retN X7 hx (t := .boolean) Bd.returns (by simp) (hb hby d5_62) hr) (by decide) (by decide) ?_
            show Q_rm_nm_2 Z _ _ _ _ _ _ _ _ _ _ _ h0 n0 _ T7.heap _
            rw [e7]
            exact ⟨by rw [← hr]; simp [own_nm, own_all, hc15_4, hj1], N7, rfl⟩
        · refine Go.of (fun _ kz => XS.icmpYes X7.here hx rfl (pc0 := 52) (pc' := 63) rfl (hb hby d5_52) rfl (flt hc52_12).2.2.2 (by decide) (by decide) kz) ?_
          show Go _ _ _ _ _ T7 (mkF m 63 #[.val (.ref a), .val (.int (1 : Int32)), .val (.int (own_ch u1))] [])
          exact hgo1 (by simp [own_ltr, hc40_9, hc46_10, hc52_12])
    · refine Go.of (fun _ kz => XS.ifYes X7.here hx rfl (pc0 := 40) (pc' := 63) rfl (hb hby d5_40) rfl ((if0 _ _).trans (feq hc40_9).2) (by decide) (by decide) kz) ?_
      show Go _ _ _ _ _ T7 (mkF m 63 #[.val (.ref a), .val (.int (1 : Int32)), .val (.int (own_ch u1))] [])
      exact hgo1 (by simp [own_ltr, hc40_9])

theorem ef_rm_nm_3 (m : MethodId) (x0 : Addr) : entryFrame m #[(.ref x0)] 3 = mkF m 0 #[.val (.ref x0), .unset, .unset] [] := by first | (simp [entryFrame, mkF, argsToLocals, Value.category]; done) | rfl
def Q_rm_nm_3 (Z : State) (a : Addr) (b : Addr) (kb : ClassId) (cd : Int32) (z : Int32) (vs : List Value) (u0 : UInt16) (u1 : UInt16) (u2 : UInt16) (r : Int32) (csz : Int32) (vf : Value) (h0 : Heap) (n0 : Nat) (v : Option Value) (h : Heap) (L : List Loc) : Prop := v = some (.int r) ∧ Fr n0 L ∧ h = h0
set_option maxRecDepth 65536 in
set_option maxHeartbeats 40000000 in
theorem rm_nm_3 (l : Launch) (Z : State) (a0 : Array Value) (hw : ∀ d ∈ tables_1, d.before a0 Z = true) (wz : List Jvm.Cond) (a : Addr) (b : Addr) (kb : ClassId) (cd : Int32) (z : Int32) (vs : List Value) (u0 : UInt16) (u1 : UInt16) (u2 : UInt16) (r : Int32) (csz : Int32) (vf : Value) (h0 : Heap) (n0 : Nat) (O0 : Old Z n0 h0) (E : Exa Z h0 a "java/lang/String") (Fc : Fld Z h0 a "java/lang/String" "coder" "B" (.int cd)) (Fv : Fld Z h0 a "java/lang/String" "value" "[B" (.ref b)) (Vb : Arv Z h0 b kb .byte z vs (.int (0 : Int32))) (Scs : Sta Z Z.heap "java/lang/String" "COMPACT_STRINGS" "Z" (.int csz)) (hcs : ¬ csz = (0 : Int32)) (Sf : Sta Z Z.heap "jdk/internal/util/Preconditions" "SIOOBE_FORMATTER" "Ljava/util/function/BiFunction;" vf) (hvf : vf.isRef = true) (Sas : Sta Z Z.heap "java/lang/StringUTF16" "$assertionsDisabled" "Z" (.int (1 : Int32))) (Shi : Sta Z Z.heap "java/lang/StringUTF16" "HI_BYTE_SHIFT" "I" (.int (0 : Int32))) (Slo : Sta Z Z.heap "java/lang/StringUTF16" "LO_BYTE_SHIFT" "I" (.int (8 : Int32))) (hb8 : nar .byte cd = cd) (hD : (cd = (0 : Int32) ∧ z = (3 : Int32) ∧ vs = [(.int ((own_lo u0).toInt32)), (.int ((own_lo u1).toInt32)), (.int ((own_lo u2).toInt32))] ∧ (¬ (255 : Int32) < (own_ch u0) ∧ ¬ (255 : Int32) < (own_ch u1) ∧ ¬ (255 : Int32) < (own_ch u2))) ∨ (cd = (1 : Int32) ∧ z = (6 : Int32) ∧ vs = [(.int ((own_lo0 u0).toInt32)), (.int ((own_hi8 u0).toInt32)), (.int ((own_lo0 u1).toInt32)), (.int ((own_hi8 u1).toInt32)), (.int ((own_lo0 u2).toInt32)), (.int ((own_hi8 u2).toInt32))])) (hr : own_nm [u0, u1, u2] = r) :
    MetFree l y_24 (head1 (Jvm.Cond.code y_24 prog_60_method_3_code 3 (some .boolean) :: wz) ({ frames := 5, cells := 0, slots := 0, locals := 66 } : Room)) (fun aZ UZ => aZ = #[(.ref a)] ∧ Z.Warmed39 UZ.vm ∧ UZ.heap = h0) (fun _ _ _ _ _ => True) (fun _ UZ oZ UY => ∃ vZ LZ, oZ = .returned vZ ∧ Q_rm_nm_3 Z a b kb cd z vs u0 u1 u2 r csz vf h0 n0 vZ UY.heap LZ ∧ FrameEnd UZ oZ UY LZ ({ frames := 5, cells := 0, slots := 0, locals := 66 } : Room).cells ({ frames := 5, cells := 0, slots := 0, locals := 66 } : Room).slots) := by
  refine MetFree.of_bodySF (plainFor_of_name pn_5) hisR ?_
  intro p e s m args below meth c s₁ Bd hml0 hP hK
  obtain ⟨rfl, hZ, hh⟩ := hP
  have hx := Bd.exec
  have hby := Bd.bytes
  have hml : c.maxLocals = 3 := hml0
  have hown : s.vm.findClass "com/example/fulla/fulla/model/Lattice" = some m.cls := findClass_of_methodNamed Bd.named
  have hnm := (name_of_methodNamed Bd.named Bd.method).1
  have X0 : Stand p l e ({ frames := 5, cells := 0, slots := 0, locals := 66 } : Room) s m #[(.ref a)] below meth c s₁ [] 0 0 := Stand.of_body Bd
  have e0 : s₁.heap = h0 := by rw [← hh, Bd.state]; rfl
  have N0 := Fr.nil n0
  have Z0 : n0 ≤ h0.size := O0.1 ▸ O0.2.1
  have K0 := Keep.refl h0 []
  show Go p e below (fun oW tW LW => FrameEnd s oW tW LW ({ frames := 5, cells := 0, slots := 0, locals := 66 } : Room).cells ({ frames := 5, cells := 0, slots := 0, locals := 66 } : Room).slots) (Q_rm_nm_3 Z a b kb cd z vs u0 u1 u2 r csz vf h0 n0) s₁ (entryFrame m #[(.ref a)] 3)
  refine Go.of (fun t kz => castTop (ef_rm_nm_3 m a) kz) ?_
  have hemp : (if z = (0 : Int32) then (1 : Int32) else 0) = 0 := by rcases hD with ⟨-, rfl, -⟩ | ⟨-, rfl, -⟩ <;> decide
  have hlen : (z >>> (cd &&& 31)) = (3 : Int32) := by rcases hD with ⟨rfl, rfl, -⟩ | ⟨rfl, rfl, -⟩ <;> decide
  have hch0 : (cd = (0 : Int32) ∧ own_LP vs (0 : Int32) z (own_ch u0)) ∨ (cd = (1 : Int32) ∧ own_UP vs (0 : Int32) z (own_ch u0)) := by
    rcases hD with ⟨rfl, rfl, rfl, hl⟩ | ⟨rfl, rfl, rfl⟩
    · exact Or.inl ⟨rfl, ⟨by decide, by decide⟩, _, rfl, own_lat u0 hl.1⟩
    · exact Or.inr ⟨rfl, ⟨by decide, by decide⟩, ⟨by decide, by decide⟩, ⟨by decide, by decide⟩, _, _, rfl, rfl, own_get u0⟩
  have hch1 : (cd = (0 : Int32) ∧ own_LP vs (1 : Int32) z (own_ch u1)) ∨ (cd = (1 : Int32) ∧ own_UP vs (1 : Int32) z (own_ch u1)) := by
    rcases hD with ⟨rfl, rfl, rfl, hl⟩ | ⟨rfl, rfl, rfl⟩
    · exact Or.inl ⟨rfl, ⟨by decide, by decide⟩, _, rfl, own_lat u1 hl.2.1⟩
    · exact Or.inr ⟨rfl, ⟨by decide, by decide⟩, ⟨by decide, by decide⟩, ⟨by decide, by decide⟩, _, _, rfl, rfl, own_get u1⟩
  have hch2 : (cd = (0 : Int32) ∧ own_LP vs (2 : Int32) z (own_ch u2)) ∨ (cd = (1 : Int32) ∧ own_UP vs (2 : Int32) z (own_ch u2)) := by
    rcases hD with ⟨rfl, rfl, rfl, hl⟩ | ⟨rfl, rfl, rfl⟩
    · exact Or.inl ⟨rfl, ⟨by decide, by decide⟩, _, rfl, own_lat u2 hl.2.2⟩
    · exact Or.inr ⟨rfl, ⟨by decide, by decide⟩, ⟨by decide, by decide⟩, ⟨by decide, by decide⟩, _, _, rfl, rfl, own_get u2⟩
  show Go _ _ _ _ _ s₁ (mkF m 0 #[.val (.ref a), .unset, .unset] [])
  refine Go.of (fun _ kz => XS.aloadN X0.here hx rfl (hb hby d5_0) rfl rfl kz) ?_
  show Go _ _ _ _ _ s₁ (mkF m 1 #[.val (.ref a), .unset, .unset] [(.ref a)])
  refine Go.callV X0 hx hZ hown (y := y_6) (z := y_6) (w32 hw) (w33 hw) (notFace_of_selects (args := #[]) (mvT hZ (w35 hw))) (w35 hw) (w34 hw) (w4 hw) (w36 hw) (by decide) (a := a) (rm_emp l Z a0 hw [] a b kb z vs 0 h0 n0 O0 Fv Vb hemp) e0 E 0 (by decide) (by decide) (by rw [hml]; rfl) (argsL := []) (rest := []) (lenOf pd_6 rfl) rfl rfl (Nat.le_of_eq rfl) (hb hby d5_1) (c2 := 0) (s2 := 0) rfl rfl (by decide) (by decide) fun v1 T1 Lc1 L1 X1 l1 hQ1 => ?_
  obtain ⟨rfl, N1q, e1⟩ := hQ1
  have N1 : Fr n0 L1 := by rw [l1]; exact Fr.app N0 N1q
  refine Go.of (fun _ kz => XS.ifNo X1.here hx rfl (hb hby d5_4) rfl ((if0 _ _).trans (teq (by decide : (0 : Int32) = (0 : Int32))).2) kz) ?_
  refine Go.of (fun _ kz => XS.aloadN X1.here hx rfl (hb hby d5_7) rfl rfl (XS.iconst X1.here hx rfl (hb hby d5_8) kz)) ?_
  show Go _ _ _ _ _ T1 (mkF m 9 #[.val (.ref a), .unset, .unset] [(.int (0 : Int32)), (.ref a)])
  refine Go.callV X1 hx hZ hown (y := y_11) (z := y_11) (w51 hw) (w52 hw) (notFace_of_selects (args := #[]) (mvT hZ (w54 hw))) (w54 hw) (w53 hw) (w4 hw) (w55 hw) (by decide) (a := a) (rm_ch l Z a0 hw [] a (0 : Int32) cd b kb z vs (own_ch u0) csz vf h0 n0 O0 E Fc Fv Vb Scs hcs Sf hvf Sas Shi Slo (own_narc u0) hch0) e1 E 0 (by decide) (by decide) (by rw [hml]; rfl) (argsL := [(.int (0 : Int32))]) (rest := []) (lenOf pd_15 rfl) rfl rfl (Nat.le_of_eq rfl) (hb hby d5_9) (c2 := 0) (s2 := 0) rfl rfl (by decide) (by decide) fun v2 T2 Lc2 L2 X2 l2 hQ2 => ?_
  obtain ⟨rfl, N2q, e2⟩ := hQ2
  have N2 : Fr n0 L2 := by rw [l2]; exact Fr.app N1 N2q
  show Go _ _ _ _ _ T2 (mkF m 12 #[.val (.ref a), .unset, .unset] [(.int (own_ch u0))])
  refine Go.callS X2 hx hZ hown (y := y_21) (w73 hw) (w74 hw) (w30 hw) (w75 hw) (by decide) (rm_ial l Z a0 hw [] (own_ch u0) h0 n0 O0) e2 0 (by decide) (by decide) (by rw [hml]; rfl) (argsL := [(.int (own_ch u0))]) (rest := []) (lenOf pd_14 rfl) rfl rfl (Nat.le_of_eq rfl) (hb hby d5_12) (c2 := 0) (s2 := 0) rfl rfl (by decide) (by decide) fun v3 T3 Lc3 L3 X3 l3 hQ3 => ?_
  obtain ⟨rfl, N3q, e3⟩ := hQ3
  have N3 : Fr n0 L3 := by rw [l3]; exact Fr.app N2 N3q
  by_cases hc15_4 : (own_let (own_ch u0)) = (0 : Int32)
  · refine Go.of (fun _ kz => XS.ifNo X3.here hx rfl (hb hby d5_15) rfl ((if0 _ _).trans (teq hc15_4).2) kz) ?_
    refine Go.of (fun _ kz => XS.iconst X3.here hx rfl (hb hby d5_18) kz) ?_
    refine Go.ret X3 (v := some (.int (0 : Int32))) (fun h => by rw [Bd.returns] at h; cases h) Bd.notSynchronized (fun fs hr => retN X3 hx (t := .boolean) Bd.returns (by simp) (hb hby d5_19) hr) (by decide) (by decide) ?_
    show Q_rm_nm_3 Z _ _ _ _ _ _ _ _ _ _ _ _ h0 n0 _ T3.heap _
    rw [e3]
    exact ⟨by rw [← hr]; simp [own_nm, own_all, hc15_4], N3, rfl⟩
  · refine Go.of (fun _ kz => XS.ifYes X3.here hx rfl (pc0 := 15) (pc' := 20) rfl (hb hby d5_15) rfl ((if0 _ _).trans (feq hc15_4).2) (by decide) (by decide) kz) ?_
    refine Go.of (fun _ kz => XS.iconst X3.here hx rfl (hb hby d5_20) (XS.istoreN X3.here hx rfl (hb hby d5_21) rfl (l' := #[.val (.ref a), .val (.int (1 : Int32)), .unset]) rfl (XS.iloadN X3.here hx rfl (hb hby d5_22) rfl (XS.aloadN X3.here hx rfl (hb hby d5_23) rfl rfl kz)))) ?_
    show Go _ _ _ _ _ T3 (mkF m 24 #[.val (.ref a), .val (.int (1 : Int32)), .unset] [(.ref a), (.int (1 : Int32))])
    refine Go.callV X3 hx hZ hown (y := y_5) (z := y_5) (w105 hw) (w106 hw) (notFace_of_selects (args := #[]) (mvT hZ (w108 hw))) (w108 hw) (w107 hw) (w4 hw) (w109 hw) (by decide) (a := a) (rm_len l Z a0 hw [] a cd csz b kb z vs (3 : Int32) h0 n0 O0 E Fc Scs hcs hb8 Fv Vb hlen) e3 E 1 (by decide) (by decide) (by rw [hml]; rfl) (argsL := []) (rest := [(.int (1 : Int32))]) (lenOf pd_16 rfl) rfl rfl (Nat.le_of_eq rfl) (hb hby d5_24) (c2 := 0) (s2 := 0) rfl rfl (by decide) (by decide) fun v5 T5 Lc5 L5 X5 l5 hQ5 => ?_
    obtain ⟨rfl, N5q, e5⟩ := hQ5
    have N5 : Fr n0 L5 := by rw [l5]; exact Fr.app N3 N5q
    refine Go.of (fun _ kz => XS.icmpNo X5.here hx rfl (hb hby d5_27) rfl (tlt (by decide : (1 : Int32) < (3 : Int32))).2.1 kz) ?_
    refine Go.of (fun _ kz => XS.aloadN X5.here hx rfl (hb hby d5_30) rfl rfl (XS.iloadN X5.here hx rfl (hb hby d5_31) rfl kz)) ?_
    show Go _ _ _ _ _ T5 (mkF m 32 #[.val (.ref a), .val (.int (1 : Int32)), .unset] [(.int (1 : Int32)), (.ref a)])
    refine Go.callV X5 hx hZ hown (y := y_11) (z := y_11) (w51 hw) (w52 hw) (notFace_of_selects (args := #[]) (mvT hZ (w54 hw))) (w54 hw) (w53 hw) (w4 hw) (w55 hw) (by decide) (a := a) (rm_ch l Z a0 hw [] a (1 : Int32) cd b kb z vs (own_ch u1) csz vf h0 n0 O0 E Fc Fv Vb Scs hcs Sf hvf Sas Shi Slo (own_narc u1) hch1) e5 E 0 (by decide) (by decide) (by rw [hml]; rfl) (argsL := [(.int (1 : Int32))]) (rest := []) (lenOf pd_15 rfl) rfl rfl (Nat.le_of_eq rfl) (hb hby d5_32) (c2 := 0) (s2 := 0) rfl rfl (by decide) (by decide) fun v6 T6 Lc6 L6 X6 l6 hQ6 => ?_
    obtain ⟨rfl, N6q, e6⟩ := hQ6
    have N6 : Fr n0 L6 := by rw [l6]; exact Fr.app N5 N6q
    refine Go.of (fun _ kz => XS.istoreN X6.here hx rfl (hb hby d5_35) rfl (l' := #[.val (.ref a), .val (.int (1 : Int32)), .val (.int (own_ch u1))]) rfl (XS.iloadN X6.here hx rfl (hb hby d5_36) rfl kz)) ?_
    show Go _ _ _ _ _ T6 (mkF m 37 #[.val (.ref a), .val (.int (1 : Int32)), .val (.int (own_ch u1))] [(.int (own_ch u1))])
    refine Go.callS X6 hx hZ hown (y := y_21) (w73 hw) (w74 hw) (w30 hw) (w75 hw) (by decide) (rm_ial l Z a0 hw [] (own_ch u1) h0 n0 O0) e6 0 (by decide) (by decide) (by rw [hml]; rfl) (argsL := [(.int (own_ch u1))]) (rest := []) (lenOf pd_14 rfl) rfl rfl (Nat.le_of_eq rfl) (hb hby d5_37) (c2 := 0) (s2 := 0) rfl rfl (by decide) (by decide) fun v7 T7 Lc7 L7 X7 l7 hQ7 => ?_
    obtain ⟨rfl, N7q, e7⟩ := hQ7
    have N7 : Fr n0 L7 := by rw [l7]; exact Fr.app N6 N7q
    show Go _ _ _ _ _ T7 (mkF m 40 #[.val (.ref a), .val (.int (1 : Int32)), .val (.int (own_ch u1))] [(.int (own_let (own_ch u1)))])
    have hgo1 : ¬ own_ltr (own_ch u1) = (0 : Int32) → Go p e below (fun oW tW LW => FrameEnd s oW tW LW ({ frames := 5, cells := 0, slots := 0, locals := 66 } : Room).cells ({ frames := 5, cells := 0, slots := 0, locals := 66 } : Room).slots) (Q_rm_nm_3 Z a b kb cd z vs u0 u1 u2 r csz vf h0 n0) T7 (mkF m 63 #[.val (.ref a), .val (.int (1 : Int32)), .val (.int (own_ch u1))] []) := by
      intro hj1
      show Go _ _ _ _ _ T7 (mkF m 63 #[.val (.ref a), .val (.int (1 : Int32)), .val (.int (own_ch u1))] [])
      refine Go.of (fun _ kz => XS.iinc X7.here hx rfl (hb hby d5_63) rfl (l' := #[.val (.ref a), .val (.int (2 : Int32)), .val (.int (own_ch u1))]) rfl (XS.goto X7.here hx rfl (pc0 := 66) (pc' := 22) rfl (hb hby d5_66) (by decide) (by decide) (XS.iloadN X7.here hx rfl (hb hby d5_22) rfl (XS.aloadN X7.here hx rfl (hb hby d5_23) rfl rfl kz)))) ?_
      show Go _ _ _ _ _ T7 (mkF m 24 #[.val (.ref a), .val (.int (2 : Int32)), .val (.int (own_ch u1))] [(.ref a), (.int (2 : Int32))])
      refine Go.callV X7 hx hZ hown (y := y_5) (z := y_5) (w105 hw) (w106 hw) (notFace_of_selects (args := #[]) (mvT hZ (w108 hw))) (w108 hw) (w107 hw) (w4 hw) (w109 hw) (by decide) (a := a) (rm_len l Z a0 hw [] a cd csz b kb z vs (3 : Int32) h0 n0 O0 E Fc Scs hcs hb8 Fv Vb hlen) e7 E 1 (by decide) (by decide) (by rw [hml]; rfl) (argsL := []) (rest := [(.int (2 : Int32))]) (lenOf pd_16 rfl) rfl rfl (Nat.le_of_eq rfl) (hb hby d5_24) (c2 := 0) (s2 := 0) rfl rfl (by decide) (by decide) fun v8 T8 Lc8 L8 X8 l8 hQ8 => ?_
      obtain ⟨rfl, N8q, e8⟩ := hQ8
      have N8 : Fr n0 L8 := by rw [l8]; exact Fr.app N7 N8q
      refine Go.of (fun _ kz => XS.icmpNo X8.here hx rfl (hb hby d5_27) rfl (tlt (by decide : (2 : Int32) < (3 : Int32))).2.1 kz) ?_
      refine Go.of (fun _ kz => XS.aloadN X8.here hx rfl (hb hby d5_30) rfl rfl (XS.iloadN X8.here hx rfl (hb hby d5_31) rfl kz)) ?_
      show Go _ _ _ _ _ T8 (mkF m 32 #[.val (.ref a), .val (.int (2 : Int32)), .val (.int (own_ch u1))] [(.int (2 : Int32)), (.ref a)])
      refine Go.callV X8 hx hZ hown (y := y_11) (z := y_11) (w51 hw) (w52 hw) (notFace_of_selects (args := #[]) (mvT hZ (w54 hw))) (w54 hw) (w53 hw) (w4 hw) (w55 hw) (by decide) (a := a) (rm_ch l Z a0 hw [] a (2 : Int32) cd b kb z vs (own_ch u2) csz vf h0 n0 O0 E Fc Fv Vb Scs hcs Sf hvf Sas Shi Slo (own_narc u2) hch2) e8 E 0 (by decide) (by decide) (by rw [hml]; rfl) (argsL := [(.int (2 : Int32))]) (rest := []) (lenOf pd_15 rfl) rfl rfl (Nat.le_of_eq rfl) (hb hby d5_32) (c2 := 0) (s2 := 0) rfl rfl (by decide) (by decide) fun v9 T9 Lc9 L9 X9 l9 hQ9 => ?_
      obtain ⟨rfl, N9q, e9⟩ := hQ9
      have N9 : Fr n0 L9 := by rw [l9]; exact Fr.app N8 N9q
      refine Go.of (fun _ kz => XS.istoreN X9.here hx rfl (hb hby d5_35) rfl (l' := #[.val (.ref a), .val (.int (2 : Int32)), .val (.int (own_ch u2))]) rfl (XS.iloadN X9.here hx rfl (hb hby d5_36) rfl kz)) ?_
      show Go _ _ _ _ _ T9 (mkF m 37 #[.val (.ref a), .val (.int (2 : Int32)), .val (.int (own_ch u2))] [(.int (own_ch u2))])
      refine Go.callS X9 hx hZ hown (y := y_21) (w73 hw) (w74 hw) (w30 hw) (w75 hw) (by decide) (rm_ial l Z a0 hw [] (own_ch u2) h0 n0 O0) e9 0 (by decide) (by decide) (by rw [hml]; rfl) (argsL := [(.int (own_ch u2))]) (rest := []) (lenOf pd_14 rfl) rfl rfl (Nat.le_of_eq rfl) (hb hby d5_37) (c2 := 0) (s2 := 0) rfl rfl (by decide) (by decide) fun v10 T10 Lc10 L10 X10 l10 hQ10 => ?_
      obtain ⟨rfl, N10q, e10⟩ := hQ10
      have N10 : Fr n0 L10 := by rw [l10]; exact Fr.app N9 N10q
      show Go _ _ _ _ _ T10 (mkF m 40 #[.val (.ref a), .val (.int (2 : Int32)), .val (.int (own_ch u2))] [(.int (own_let (own_ch u2)))])
      have hgo2 : ¬ own_ltr (own_ch u2) = (0 : Int32) → Go p e below (fun oW tW LW => FrameEnd s oW tW LW ({ frames := 5, cells := 0, slots := 0, locals := 66 } : Room).cells ({ frames := 5, cells := 0, slots := 0, locals := 66 } : Room).slots) (Q_rm_nm_3 Z a b kb cd z vs u0 u1 u2 r csz vf h0 n0) T10 (mkF m 63 #[.val (.ref a), .val (.int (2 : Int32)), .val (.int (own_ch u2))] []) := by
        intro hj2
        show Go _ _ _ _ _ T10 (mkF m 63 #[.val (.ref a), .val (.int (2 : Int32)), .val (.int (own_ch u2))] [])
        refine Go.of (fun _ kz => XS.iinc X10.here hx rfl (hb hby d5_63) rfl (l' := #[.val (.ref a), .val (.int (3 : Int32)), .val (.int (own_ch u2))]) rfl (XS.goto X10.here hx rfl (pc0 := 66) (pc' := 22) rfl (hb hby d5_66) (by decide) (by decide) (XS.iloadN X10.here hx rfl (hb hby d5_22) rfl (XS.aloadN X10.here hx rfl (hb hby d5_23) rfl rfl kz)))) ?_
        show Go _ _ _ _ _ T10 (mkF m 24 #[.val (.ref a), .val (.int (3 : Int32)), .val (.int (own_ch u2))] [(.ref a), (.int (3 : Int32))])
        refine Go.callV X10 hx hZ hown (y := y_5) (z := y_5) (w105 hw) (w106 hw) (notFace_of_selects (args := #[]) (mvT hZ (w108 hw))) (w108 hw) (w107 hw) (w4 hw) (w109 hw) (by decide) (a := a) (rm_len l Z a0 hw [] a cd csz b kb z vs (3 : Int32) h0 n0 O0 E Fc Scs hcs hb8 Fv Vb hlen) e10 E 1 (by decide) (by decide) (by rw [hml]; rfl) (argsL := []) (rest := [(.int (3 : Int32))]) (lenOf pd_16 rfl) rfl rfl (Nat.le_of_eq rfl) (hb hby d5_24) (c2 := 0) (s2 := 0) rfl rfl (by decide) (by decide) fun v11 T11 Lc11 L11 X11 l11 hQ11 => ?_
        obtain ⟨rfl, N11q, e11⟩ := hQ11
        have N11 : Fr n0 L11 := by rw [l11]; exact Fr.app N10 N11q
        refine Go.of (fun _ kz => XS.icmpYes X11.here hx rfl (pc0 := 27) (pc' := 69) rfl (hb hby d5_27) rfl (flt (by decide : ¬ (3 : Int32) < (3 : Int32))).2.1 (by decide) (by decide) kz) ?_
        refine Go.of (fun _ kz => XS.iconst X11.here hx rfl (hb hby d5_69) kz) ?_
        refine Go.ret X11 (v := some (.int (1 : Int32))) (fun h => by rw [Bd.returns] at h; cases h) Bd.notSynchronized (fun fs hr => retN X11 hx (t := .boolean) Bd.returns (by simp) (hb hby d5_70) hr) (by decide) (by decide) ?_
        show Q_rm_nm_3 Z _ _ _ _ _ _ _ _ _ _ _ _ h0 n0 _ T11.heap _
        rw [e11]
        exact ⟨by rw [← hr]; simp [own_nm, own_all, hc15_4, hj1, hj2], N11, rfl⟩
      by_cases hc40_12 : (own_let (own_ch u2)) = (0 : Int32)
      · refine Go.of (fun _ kz => XS.ifNo X10.here hx rfl (hb hby d5_40) rfl ((if0 _ _).trans (teq hc40_12).2) kz) ?_
        refine Go.of (fun _ kz => XS.iloadN X10.here hx rfl (hb hby d5_43) rfl (XS.bipush X10.here hx rfl (hb hby d5_44) kz)) ?_
        by_cases hc46_13 : (own_ch u2) < (48 : Int32)
        · refine Go.of (fun _ kz => XS.icmpYes X10.here hx rfl (pc0 := 46) (pc' := 55) rfl (hb hby d5_46) rfl (tlt hc46_13).1 (by decide) (by decide) kz) ?_
          refine Go.of (fun _ kz => XS.iloadN X10.here hx rfl (hb hby d5_55) rfl (XS.bipush X10.here hx rfl (hb hby d5_56) kz)) ?_
          by_cases hc58_14 : (own_ch u2) = (95 : Int32)
          · refine Go.of (fun _ kz => XS.icmpYes X10.here hx rfl (pc0 := 58) (pc' := 63) rfl (hb hby d5_58) rfl (teq hc58_14).1 (by decide) (by decide) kz) ?_
            show Go _ _ _ _ _ T10 (mkF m 63 #[.val (.ref a), .val (.int (2 : Int32)), .val (.int (own_ch u2))] [])
            exact hgo2 (by simp [own_ltr, hc40_12, hc46_13, hc58_14])
          · refine Go.of (fun _ kz => XS.icmpNo X10.here hx rfl (hb hby d5_58) rfl (feq hc58_14).1 kz) ?_
            show Go _ _ _ _ _ T10 (mkF m 61 #[.val (.ref a), .val (.int (2 : Int32)), .val (.int (own_ch u2))] [])
            have hj2 : own_ltr (own_ch u2) = (0 : Int32) := by simp [own_ltr, hc40_12, hc46_13, hc58_14]
            refine Go.of (fun _ kz => XS.iconst X10.here hx rfl (hb hby d5_61) kz) ?_
            refine Go.ret X10 (v := some (.int (0 : Int32))) (fun h => by rw [Bd.returns] at h; cases h) Bd.notSynchronized (fun fs hr => retN X10 hx (t := .boolean) Bd.returns (by simp) (hb hby d5_62) hr) (by decide) (by decide) ?_
            show Q_rm_nm_3 Z _ _ _ _ _ _ _ _ _ _ _ _ h0 n0 _ T10.heap _
            rw [e10]
            exact ⟨by rw [← hr]; simp [own_nm, own_all, hc15_4, hj1, hj2], N10, rfl⟩
        · refine Go.of (fun _ kz => XS.icmpNo X10.here hx rfl (hb hby d5_46) rfl (flt hc46_13).1 kz) ?_
          refine Go.of (fun _ kz => XS.iloadN X10.here hx rfl (hb hby d5_49) rfl (XS.bipush X10.here hx rfl (hb hby d5_50) kz)) ?_
          by_cases hc52_15 : (57 : Int32) < (own_ch u2)
          · refine Go.of (fun _ kz => XS.icmpNo X10.here hx rfl (hb hby d5_52) rfl (tlt hc52_15).2.2.2 kz) ?_
            show Go _ _ _ _ _ T10 (mkF m 55 #[.val (.ref a), .val (.int (2 : Int32)), .val (.int (own_ch u2))] [])
            refine Go.of (fun _ kz => XS.iloadN X10.here hx rfl (hb hby d5_55) rfl (XS.bipush X10.here hx rfl (hb hby d5_56) kz)) ?_
            by_cases hc58_16 : (own_ch u2) = (95 : Int32)
            · refine Go.of (fun _ kz => XS.icmpYes X10.here hx rfl (pc0 := 58) (pc' := 63) rfl (hb hby d5_58) rfl (teq hc58_16).1 (by decide) (by decide) kz) ?_
              show Go _ _ _ _ _ T10 (mkF m 63 #[.val (.ref a), .val (.int (2 : Int32)), .val (.int (own_ch u2))] [])
              exact hgo2 (by simp [own_ltr, hc40_12, hc46_13, hc52_15, hc58_16])
            · refine Go.of (fun _ kz => XS.icmpNo X10.here hx rfl (hb hby d5_58) rfl (feq hc58_16).1 kz) ?_
              show Go _ _ _ _ _ T10 (mkF m 61 #[.val (.ref a), .val (.int (2 : Int32)), .val (.int (own_ch u2))] [])
              have hj2 : own_ltr (own_ch u2) = (0 : Int32) := by simp [own_ltr, hc40_12, hc46_13, hc52_15, hc58_16]
              refine Go.of (fun _ kz => XS.iconst X10.here hx rfl (hb hby d5_61) kz) ?_
              refine Go.ret X10 (v := some (.int (0 : Int32))) (fun h => by rw [Bd.returns] at h; cases h) Bd.notSynchronized (fun fs hr => retN X10 hx (t := .boolean) Bd.returns (by simp) (hb hby d5_62) hr) (by decide) (by decide) ?_
              show Q_rm_nm_3 Z _ _ _ _ _ _ _ _ _ _ _ _ h0 n0 _ T10.heap _
              rw [e10]
              exact ⟨by rw [← hr]; simp [own_nm, own_all, hc15_4, hj1, hj2], N10, rfl⟩
          · refine Go.of (fun _ kz => XS.icmpYes X10.here hx rfl (pc0 := 52) (pc' := 63) rfl (hb hby d5_52) rfl (flt hc52_15).2.2.2 (by decide) (by decide) kz) ?_
            show Go _ _ _ _ _ T10 (mkF m 63 #[.val (.ref a), .val (.int (2 : Int32)), .val (.int (own_ch u2))] [])
            exact hgo2 (by simp [own_ltr, hc40_12, hc46_13, hc52_15])
      · refine Go.of (fun _ kz => XS.ifYes X10.here hx rfl (pc0 := 40) (pc' := 63) rfl (hb hby d5_40) rfl ((if0 _ _).trans (feq hc40_12).2) (by decide) (by decide) kz) ?_
        show Go _ _ _ _ _ T10 (mkF m 63 #[.val (.ref a), .val (.int (2 : Int32)), .val (.int (own_ch u2))] [])
        exact hgo2 (by simp [own_ltr, hc40_12])
    by_cases hc40_17 : (own_let (own_ch u1)) = (0 : Int32)
    · refine Go.of (fun _ kz => XS.ifNo X7.here hx rfl (hb hby d5_40) rfl ((if0 _ _).trans (teq hc40_17).2) kz) ?_
      refine Go.of (fun _ kz => XS.iloadN X7.here hx rfl (hb hby d5_43) rfl (XS.bipush X7.here hx rfl (hb hby d5_44) kz)) ?_
      by_cases hc46_18 : (own_ch u1) < (48 : Int32)
      · refine Go.of (fun _ kz => XS.icmpYes X7.here hx rfl (pc0 := 46) (pc' := 55) rfl (hb hby d5_46) rfl (tlt hc46_18).1 (by decide) (by decide) kz) ?_
        refine Go.of (fun _ kz => XS.iloadN X7.here hx rfl (hb hby d5_55) rfl (XS.bipush X7.here hx rfl (hb hby d5_56) kz)) ?_
        by_cases hc58_19 : (own_ch u1) = (95 : Int32)
        · refine Go.of (fun _ kz => XS.icmpYes X7.here hx rfl (pc0 := 58) (pc' := 63) rfl (hb hby d5_58) rfl (teq hc58_19).1 (by decide) (by decide) kz) ?_
          show Go _ _ _ _ _ T7 (mkF m 63 #[.val (.ref a), .val (.int (1 : Int32)), .val (.int (own_ch u1))] [])
          exact hgo1 (by simp [own_ltr, hc40_17, hc46_18, hc58_19])
        · refine Go.of (fun _ kz => XS.icmpNo X7.here hx rfl (hb hby d5_58) rfl (feq hc58_19).1 kz) ?_
          show Go _ _ _ _ _ T7 (mkF m 61 #[.val (.ref a), .val (.int (1 : Int32)), .val (.int (own_ch u1))] [])
          have hj1 : own_ltr (own_ch u1) = (0 : Int32) := by simp [own_ltr, hc40_17, hc46_18, hc58_19]
          refine Go.of (fun _ kz => XS.iconst X7.here hx rfl (hb hby d5_61) kz) ?_
          refine Go.ret X7 (v := some (.int (0 : Int32))) (fun h => by rw [Bd.returns] at h; cases h) Bd.notSynchronized (fun fs hr => retN X7 hx (t := .boolean) Bd.returns (by simp) (hb hby d5_62) hr) (by decide) (by decide) ?_
          show Q_rm_nm_3 Z _ _ _ _ _ _ _ _ _ _ _ _ h0 n0 _ T7.heap _
          rw [e7]
          exact ⟨by rw [← hr]; simp [own_nm, own_all, hc15_4, hj1], N7, rfl⟩
      · refine Go.of (fun _ kz => XS.icmpNo X7.here hx rfl (hb hby d5_46) rfl (flt hc46_18).1 kz) ?_
        refine Go.of (fun _ kz => XS.iloadN X7.here hx rfl (hb hby d5_49) rfl (XS.bipush X7.here hx rfl (hb hby d5_50) kz)) ?_
        by_cases hc52_20 : (57 : Int32) < (own_ch u1)
        · refine Go.of (fun _ kz => XS.icmpNo X7.here hx rfl (hb hby d5_52) rfl (tlt hc52_20).2.2.2 kz) ?_
          show Go _ _ _ _ _ T7 (mkF m 55 #[.val (.ref a), .val (.int (1 : Int32)), .val (.int (own_ch u1))] [])
          refine Go.of (fun _ kz => XS.iloadN X7.here hx rfl (hb hby d5_55) rfl (XS.bipush X7.here hx rfl (hb hby d5_56) kz)) ?_
          by_cases hc58_21 : (own_ch u1) = (95 : Int32)
          · refine Go.of (fun _ kz => XS.icmpYes X7.here hx rfl (pc0 := 58) (pc' := 63) rfl (hb hby d5_58) rfl (teq hc58_21).1 (by decide) (by decide) kz) ?_
            show Go _ _ _ _ _ T7 (mkF m 63 #[.val (.ref a), .val (.int (1 : Int32)), .val (.int (own_ch u1))] [])
            exact hgo1 (by simp [own_ltr, hc40_17, hc46_18, hc52_20, hc58_21])
          · refine Go.of (fun _ kz => XS.icmpNo X7.here hx rfl (hb hby d5_58) rfl (feq hc58_21).1 kz) ?_
            show Go _ _ _ _ _ T7 (mkF m 61 #[.val (.ref a), .val (.int (1 : Int32)), .val (.int (own_ch u1))] [])
            have hj1 : own_ltr (own_ch u1) = (0 : Int32) := by simp [own_ltr, hc40_17, hc46_18, hc52_20, hc58_21]
            refine Go.of (fun _ kz => XS.iconst X7.here hx rfl (hb hby d5_61) kz) ?_
            refine Go.ret X7 (v := some (.int (0 : Int32))) (fun h => by rw [Bd.returns] at h; cases h) Bd.notSynchronized (fun fs hr => retN X7 hx (t := .boolean) Bd.returns (by simp) (hb hby d5_62) hr) (by decide) (by decide) ?_
            show Q_rm_nm_3 Z _ _ _ _ _ _ _ _ _ _ _ _ h0 n0 _ T7.heap _
            rw [e7]
            exact ⟨by rw [← hr]; simp [own_nm, own_all, hc15_4, hj1], N7, rfl⟩
        · refine Go.of (fun _ kz => XS.icmpYes X7.here hx rfl (pc0 := 52) (pc' := 63) rfl (hb hby d5_52) rfl (flt hc52_20).2.2.2 (by decide) (by decide) kz) ?_
          show Go _ _ _ _ _ T7 (mkF m 63 #[.val (.ref a), .val (.int (1 : Int32)), .val (.int (own_ch u1))] [])
          exact hgo1 (by simp [own_ltr, hc40_17, hc46_18, hc52_20])
    · refine Go.of (fun _ kz => XS.ifYes X7.here hx rfl (pc0 := 40) (pc' := 63) rfl (hb hby d5_40) rfl ((if0 _ _).trans (feq hc40_17).2) (by decide) (by decide) kz) ?_
      show Go _ _ _ _ _ T7 (mkF m 63 #[.val (.ref a), .val (.int (1 : Int32)), .val (.int (own_ch u1))] [])
      exact hgo1 (by simp [own_ltr, hc40_17])

theorem ef_rm_nm_4 (m : MethodId) (x0 : Addr) : entryFrame m #[(.ref x0)] 3 = mkF m 0 #[.val (.ref x0), .unset, .unset] [] := by first | (simp [entryFrame, mkF, argsToLocals, Value.category]; done) | rfl
def Q_rm_nm_4 (Z : State) (a : Addr) (b : Addr) (kb : ClassId) (cd : Int32) (z : Int32) (vs : List Value) (u0 : UInt16) (u1 : UInt16) (u2 : UInt16) (u3 : UInt16) (r : Int32) (csz : Int32) (vf : Value) (h0 : Heap) (n0 : Nat) (v : Option Value) (h : Heap) (L : List Loc) : Prop := v = some (.int r) ∧ Fr n0 L ∧ h = h0
set_option maxRecDepth 65536 in
set_option maxHeartbeats 40000000 in
theorem rm_nm_4 (l : Launch) (Z : State) (a0 : Array Value) (hw : ∀ d ∈ tables_1, d.before a0 Z = true) (wz : List Jvm.Cond) (a : Addr) (b : Addr) (kb : ClassId) (cd : Int32) (z : Int32) (vs : List Value) (u0 : UInt16) (u1 : UInt16) (u2 : UInt16) (u3 : UInt16) (r : Int32) (csz : Int32) (vf : Value) (h0 : Heap) (n0 : Nat) (O0 : Old Z n0 h0) (E : Exa Z h0 a "java/lang/String") (Fc : Fld Z h0 a "java/lang/String" "coder" "B" (.int cd)) (Fv : Fld Z h0 a "java/lang/String" "value" "[B" (.ref b)) (Vb : Arv Z h0 b kb .byte z vs (.int (0 : Int32))) (Scs : Sta Z Z.heap "java/lang/String" "COMPACT_STRINGS" "Z" (.int csz)) (hcs : ¬ csz = (0 : Int32)) (Sf : Sta Z Z.heap "jdk/internal/util/Preconditions" "SIOOBE_FORMATTER" "Ljava/util/function/BiFunction;" vf) (hvf : vf.isRef = true) (Sas : Sta Z Z.heap "java/lang/StringUTF16" "$assertionsDisabled" "Z" (.int (1 : Int32))) (Shi : Sta Z Z.heap "java/lang/StringUTF16" "HI_BYTE_SHIFT" "I" (.int (0 : Int32))) (Slo : Sta Z Z.heap "java/lang/StringUTF16" "LO_BYTE_SHIFT" "I" (.int (8 : Int32))) (hb8 : nar .byte cd = cd) (hD : (cd = (0 : Int32) ∧ z = (4 : Int32) ∧ vs = [(.int ((own_lo u0).toInt32)), (.int ((own_lo u1).toInt32)), (.int ((own_lo u2).toInt32)), (.int ((own_lo u3).toInt32))] ∧ (¬ (255 : Int32) < (own_ch u0) ∧ ¬ (255 : Int32) < (own_ch u1) ∧ ¬ (255 : Int32) < (own_ch u2) ∧ ¬ (255 : Int32) < (own_ch u3))) ∨ (cd = (1 : Int32) ∧ z = (8 : Int32) ∧ vs = [(.int ((own_lo0 u0).toInt32)), (.int ((own_hi8 u0).toInt32)), (.int ((own_lo0 u1).toInt32)), (.int ((own_hi8 u1).toInt32)), (.int ((own_lo0 u2).toInt32)), (.int ((own_hi8 u2).toInt32)), (.int ((own_lo0 u3).toInt32)), (.int ((own_hi8 u3).toInt32))])) (hr : own_nm [u0, u1, u2, u3] = r) :
    MetFree l y_24 (head1 (Jvm.Cond.code y_24 prog_60_method_3_code 3 (some .boolean) :: wz) ({ frames := 5, cells := 0, slots := 0, locals := 66 } : Room)) (fun aZ UZ => aZ = #[(.ref a)] ∧ Z.Warmed39 UZ.vm ∧ UZ.heap = h0) (fun _ _ _ _ _ => True) (fun _ UZ oZ UY => ∃ vZ LZ, oZ = .returned vZ ∧ Q_rm_nm_4 Z a b kb cd z vs u0 u1 u2 u3 r csz vf h0 n0 vZ UY.heap LZ ∧ FrameEnd UZ oZ UY LZ ({ frames := 5, cells := 0, slots := 0, locals := 66 } : Room).cells ({ frames := 5, cells := 0, slots := 0, locals := 66 } : Room).slots) := by
  refine MetFree.of_bodySF (plainFor_of_name pn_5) hisR ?_
  intro p e s m args below meth c s₁ Bd hml0 hP hK
  obtain ⟨rfl, hZ, hh⟩ := hP
  have hx := Bd.exec
  have hby := Bd.bytes
  have hml : c.maxLocals = 3 := hml0
  have hown : s.vm.findClass "com/example/fulla/fulla/model/Lattice" = some m.cls := findClass_of_methodNamed Bd.named
  have hnm := (name_of_methodNamed Bd.named Bd.method).1
  have X0 : Stand p l e ({ frames := 5, cells := 0, slots := 0, locals := 66 } : Room) s m #[(.ref a)] below meth c s₁ [] 0 0 := Stand.of_body Bd
  have e0 : s₁.heap = h0 := by rw [← hh, Bd.state]; rfl
  have N0 := Fr.nil n0
  have Z0 : n0 ≤ h0.size := O0.1 ▸ O0.2.1
  have K0 := Keep.refl h0 []
  show Go p e below (fun oW tW LW => FrameEnd s oW tW LW ({ frames := 5, cells := 0, slots := 0, locals := 66 } : Room).cells ({ frames := 5, cells := 0, slots := 0, locals := 66 } : Room).slots) (Q_rm_nm_4 Z a b kb cd z vs u0 u1 u2 u3 r csz vf h0 n0) s₁ (entryFrame m #[(.ref a)] 3)
  refine Go.of (fun t kz => castTop (ef_rm_nm_4 m a) kz) ?_
  have hemp : (if z = (0 : Int32) then (1 : Int32) else 0) = 0 := by rcases hD with ⟨-, rfl, -⟩ | ⟨-, rfl, -⟩ <;> decide
  have hlen : (z >>> (cd &&& 31)) = (4 : Int32) := by rcases hD with ⟨rfl, rfl, -⟩ | ⟨rfl, rfl, -⟩ <;> decide
  have hch0 : (cd = (0 : Int32) ∧ own_LP vs (0 : Int32) z (own_ch u0)) ∨ (cd = (1 : Int32) ∧ own_UP vs (0 : Int32) z (own_ch u0)) := by
    rcases hD with ⟨rfl, rfl, rfl, hl⟩ | ⟨rfl, rfl, rfl⟩
    · exact Or.inl ⟨rfl, ⟨by decide, by decide⟩, _, rfl, own_lat u0 hl.1⟩
    · exact Or.inr ⟨rfl, ⟨by decide, by decide⟩, ⟨by decide, by decide⟩, ⟨by decide, by decide⟩, _, _, rfl, rfl, own_get u0⟩
  have hch1 : (cd = (0 : Int32) ∧ own_LP vs (1 : Int32) z (own_ch u1)) ∨ (cd = (1 : Int32) ∧ own_UP vs (1 : Int32) z (own_ch u1)) := by
    rcases hD with ⟨rfl, rfl, rfl, hl⟩ | ⟨rfl, rfl, rfl⟩
    · exact Or.inl ⟨rfl, ⟨by decide, by decide⟩, _, rfl, own_lat u1 hl.2.1⟩
    · exact Or.inr ⟨rfl, ⟨by decide, by decide⟩, ⟨by decide, by decide⟩, ⟨by decide, by decide⟩, _, _, rfl, rfl, own_get u1⟩
  have hch2 : (cd = (0 : Int32) ∧ own_LP vs (2 : Int32) z (own_ch u2)) ∨ (cd = (1 : Int32) ∧ own_UP vs (2 : Int32) z (own_ch u2)) := by
    rcases hD with ⟨rfl, rfl, rfl, hl⟩ | ⟨rfl, rfl, rfl⟩
    · exact Or.inl ⟨rfl, ⟨by decide, by decide⟩, _, rfl, own_lat u2 hl.2.2.1⟩
    · exact Or.inr ⟨rfl, ⟨by decide, by decide⟩, ⟨by decide, by decide⟩, ⟨by decide, by decide⟩, _, _, rfl, rfl, own_get u2⟩
  have hch3 : (cd = (0 : Int32) ∧ own_LP vs (3 : Int32) z (own_ch u3)) ∨ (cd = (1 : Int32) ∧ own_UP vs (3 : Int32) z (own_ch u3)) := by
    rcases hD with ⟨rfl, rfl, rfl, hl⟩ | ⟨rfl, rfl, rfl⟩
    · exact Or.inl ⟨rfl, ⟨by decide, by decide⟩, _, rfl, own_lat u3 hl.2.2.2⟩
    · exact Or.inr ⟨rfl, ⟨by decide, by decide⟩, ⟨by decide, by decide⟩, ⟨by decide, by decide⟩, _, _, rfl, rfl, own_get u3⟩
  show Go _ _ _ _ _ s₁ (mkF m 0 #[.val (.ref a), .unset, .unset] [])
  refine Go.of (fun _ kz => XS.aloadN X0.here hx rfl (hb hby d5_0) rfl rfl kz) ?_
  show Go _ _ _ _ _ s₁ (mkF m 1 #[.val (.ref a), .unset, .unset] [(.ref a)])
  refine Go.callV X0 hx hZ hown (y := y_6) (z := y_6) (w32 hw) (w33 hw) (notFace_of_selects (args := #[]) (mvT hZ (w35 hw))) (w35 hw) (w34 hw) (w4 hw) (w36 hw) (by decide) (a := a) (rm_emp l Z a0 hw [] a b kb z vs 0 h0 n0 O0 Fv Vb hemp) e0 E 0 (by decide) (by decide) (by rw [hml]; rfl) (argsL := []) (rest := []) (lenOf pd_6 rfl) rfl rfl (Nat.le_of_eq rfl) (hb hby d5_1) (c2 := 0) (s2 := 0) rfl rfl (by decide) (by decide) fun v1 T1 Lc1 L1 X1 l1 hQ1 => ?_
  obtain ⟨rfl, N1q, e1⟩ := hQ1
  have N1 : Fr n0 L1 := by rw [l1]; exact Fr.app N0 N1q
  refine Go.of (fun _ kz => XS.ifNo X1.here hx rfl (hb hby d5_4) rfl ((if0 _ _).trans (teq (by decide : (0 : Int32) = (0 : Int32))).2) kz) ?_
  refine Go.of (fun _ kz => XS.aloadN X1.here hx rfl (hb hby d5_7) rfl rfl (XS.iconst X1.here hx rfl (hb hby d5_8) kz)) ?_
  show Go _ _ _ _ _ T1 (mkF m 9 #[.val (.ref a), .unset, .unset] [(.int (0 : Int32)), (.ref a)])
  refine Go.callV X1 hx hZ hown (y := y_11) (z := y_11) (w51 hw) (w52 hw) (notFace_of_selects (args := #[]) (mvT hZ (w54 hw))) (w54 hw) (w53 hw) (w4 hw) (w55 hw) (by decide) (a := a) (rm_ch l Z a0 hw [] a (0 : Int32) cd b kb z vs (own_ch u0) csz vf h0 n0 O0 E Fc Fv Vb Scs hcs Sf hvf Sas Shi Slo (own_narc u0) hch0) e1 E 0 (by decide) (by decide) (by rw [hml]; rfl) (argsL := [(.int (0 : Int32))]) (rest := []) (lenOf pd_15 rfl) rfl rfl (Nat.le_of_eq rfl) (hb hby d5_9) (c2 := 0) (s2 := 0) rfl rfl (by decide) (by decide) fun v2 T2 Lc2 L2 X2 l2 hQ2 => ?_
  obtain ⟨rfl, N2q, e2⟩ := hQ2
  have N2 : Fr n0 L2 := by rw [l2]; exact Fr.app N1 N2q
  show Go _ _ _ _ _ T2 (mkF m 12 #[.val (.ref a), .unset, .unset] [(.int (own_ch u0))])
  refine Go.callS X2 hx hZ hown (y := y_21) (w73 hw) (w74 hw) (w30 hw) (w75 hw) (by decide) (rm_ial l Z a0 hw [] (own_ch u0) h0 n0 O0) e2 0 (by decide) (by decide) (by rw [hml]; rfl) (argsL := [(.int (own_ch u0))]) (rest := []) (lenOf pd_14 rfl) rfl rfl (Nat.le_of_eq rfl) (hb hby d5_12) (c2 := 0) (s2 := 0) rfl rfl (by decide) (by decide) fun v3 T3 Lc3 L3 X3 l3 hQ3 => ?_
  obtain ⟨rfl, N3q, e3⟩ := hQ3
  have N3 : Fr n0 L3 := by rw [l3]; exact Fr.app N2 N3q
  by_cases hc15_4 : (own_let (own_ch u0)) = (0 : Int32)
  · refine Go.of (fun _ kz => XS.ifNo X3.here hx rfl (hb hby d5_15) rfl ((if0 _ _).trans (teq hc15_4).2) kz) ?_
    refine Go.of (fun _ kz => XS.iconst X3.here hx rfl (hb hby d5_18) kz) ?_
    refine Go.ret X3 (v := some (.int (0 : Int32))) (fun h => by rw [Bd.returns] at h; cases h) Bd.notSynchronized (fun fs hr => retN X3 hx (t := .boolean) Bd.returns (by simp) (hb hby d5_19) hr) (by decide) (by decide) ?_
    show Q_rm_nm_4 Z _ _ _ _ _ _ _ _ _ _ _ _ _ h0 n0 _ T3.heap _
    rw [e3]
    exact ⟨by rw [← hr]; simp [own_nm, own_all, hc15_4], N3, rfl⟩
  · refine Go.of (fun _ kz => XS.ifYes X3.here hx rfl (pc0 := 15) (pc' := 20) rfl (hb hby d5_15) rfl ((if0 _ _).trans (feq hc15_4).2) (by decide) (by decide) kz) ?_
    refine Go.of (fun _ kz => XS.iconst X3.here hx rfl (hb hby d5_20) (XS.istoreN X3.here hx rfl (hb hby d5_21) rfl (l' := #[.val (.ref a), .val (.int (1 : Int32)), .unset]) rfl (XS.iloadN X3.here hx rfl (hb hby d5_22) rfl (XS.aloadN X3.here hx rfl (hb hby d5_23) rfl rfl kz)))) ?_
    show Go _ _ _ _ _ T3 (mkF m 24 #[.val (.ref a), .val (.int (1 : Int32)), .unset] [(.ref a), (.int (1 : Int32))])
    refine Go.callV X3 hx hZ hown (y := y_5) (z := y_5) (w105 hw) (w106 hw) (notFace_of_selects (args := #[]) (mvT hZ (w108 hw))) (w108 hw) (w107 hw) (w4 hw) (w109 hw) (by decide) (a := a) (rm_len l Z a0 hw [] a cd csz b kb z vs (4 : Int32) h0 n0 O0 E Fc Scs hcs hb8 Fv Vb hlen) e3 E 1 (by decide) (by decide) (by rw [hml]; rfl) (argsL := []) (rest := [(.int (1 : Int32))]) (lenOf pd_16 rfl) rfl rfl (Nat.le_of_eq rfl) (hb hby d5_24) (c2 := 0) (s2 := 0) rfl rfl (by decide) (by decide) fun v5 T5 Lc5 L5 X5 l5 hQ5 => ?_
    obtain ⟨rfl, N5q, e5⟩ := hQ5
    have N5 : Fr n0 L5 := by rw [l5]; exact Fr.app N3 N5q
    refine Go.of (fun _ kz => XS.icmpNo X5.here hx rfl (hb hby d5_27) rfl (tlt (by decide : (1 : Int32) < (4 : Int32))).2.1 kz) ?_
    refine Go.of (fun _ kz => XS.aloadN X5.here hx rfl (hb hby d5_30) rfl rfl (XS.iloadN X5.here hx rfl (hb hby d5_31) rfl kz)) ?_
    show Go _ _ _ _ _ T5 (mkF m 32 #[.val (.ref a), .val (.int (1 : Int32)), .unset] [(.int (1 : Int32)), (.ref a)])
    refine Go.callV X5 hx hZ hown (y := y_11) (z := y_11) (w51 hw) (w52 hw) (notFace_of_selects (args := #[]) (mvT hZ (w54 hw))) (w54 hw) (w53 hw) (w4 hw) (w55 hw) (by decide) (a := a) (rm_ch l Z a0 hw [] a (1 : Int32) cd b kb z vs (own_ch u1) csz vf h0 n0 O0 E Fc Fv Vb Scs hcs Sf hvf Sas Shi Slo (own_narc u1) hch1) e5 E 0 (by decide) (by decide) (by rw [hml]; rfl) (argsL := [(.int (1 : Int32))]) (rest := []) (lenOf pd_15 rfl) rfl rfl (Nat.le_of_eq rfl) (hb hby d5_32) (c2 := 0) (s2 := 0) rfl rfl (by decide) (by decide) fun v6 T6 Lc6 L6 X6 l6 hQ6 => ?_
    obtain ⟨rfl, N6q, e6⟩ := hQ6
    have N6 : Fr n0 L6 := by rw [l6]; exact Fr.app N5 N6q
    refine Go.of (fun _ kz => XS.istoreN X6.here hx rfl (hb hby d5_35) rfl (l' := #[.val (.ref a), .val (.int (1 : Int32)), .val (.int (own_ch u1))]) rfl (XS.iloadN X6.here hx rfl (hb hby d5_36) rfl kz)) ?_
    show Go _ _ _ _ _ T6 (mkF m 37 #[.val (.ref a), .val (.int (1 : Int32)), .val (.int (own_ch u1))] [(.int (own_ch u1))])
    refine Go.callS X6 hx hZ hown (y := y_21) (w73 hw) (w74 hw) (w30 hw) (w75 hw) (by decide) (rm_ial l Z a0 hw [] (own_ch u1) h0 n0 O0) e6 0 (by decide) (by decide) (by rw [hml]; rfl) (argsL := [(.int (own_ch u1))]) (rest := []) (lenOf pd_14 rfl) rfl rfl (Nat.le_of_eq rfl) (hb hby d5_37) (c2 := 0) (s2 := 0) rfl rfl (by decide) (by decide) fun v7 T7 Lc7 L7 X7 l7 hQ7 => ?_
    obtain ⟨rfl, N7q, e7⟩ := hQ7
    have N7 : Fr n0 L7 := by rw [l7]; exact Fr.app N6 N7q
    show Go _ _ _ _ _ T7 (mkF m 40 #[.val (.ref a), .val (.int (1 : Int32)), .val (.int (own_ch u1))] [(.int (own_let (own_ch u1)))])
    have hgo1 : ¬ own_ltr (own_ch u1) = (0 : Int32) → Go p e below (fun oW tW LW => FrameEnd s oW tW LW ({ frames := 5, cells := 0, slots := 0, locals := 66 } : Room).cells ({ frames := 5, cells := 0, slots := 0, locals := 66 } : Room).slots) (Q_rm_nm_4 Z a b kb cd z vs u0 u1 u2 u3 r csz vf h0 n0) T7 (mkF m 63 #[.val (.ref a), .val (.int (1 : Int32)), .val (.int (own_ch u1))] []) := by
      intro hj1
      show Go _ _ _ _ _ T7 (mkF m 63 #[.val (.ref a), .val (.int (1 : Int32)), .val (.int (own_ch u1))] [])
      refine Go.of (fun _ kz => XS.iinc X7.here hx rfl (hb hby d5_63) rfl (l' := #[.val (.ref a), .val (.int (2 : Int32)), .val (.int (own_ch u1))]) rfl (XS.goto X7.here hx rfl (pc0 := 66) (pc' := 22) rfl (hb hby d5_66) (by decide) (by decide) (XS.iloadN X7.here hx rfl (hb hby d5_22) rfl (XS.aloadN X7.here hx rfl (hb hby d5_23) rfl rfl kz)))) ?_
      show Go _ _ _ _ _ T7 (mkF m 24 #[.val (.ref a), .val (.int (2 : Int32)), .val (.int (own_ch u1))] [(.ref a), (.int (2 : Int32))])
      refine Go.callV X7 hx hZ hown (y := y_5) (z := y_5) (w105 hw) (w106 hw) (notFace_of_selects (args := #[]) (mvT hZ (w108 hw))) (w108 hw) (w107 hw) (w4 hw) (w109 hw) (by decide) (a := a) (rm_len l Z a0 hw [] a cd csz b kb z vs (4 : Int32) h0 n0 O0 E Fc Scs hcs hb8 Fv Vb hlen) e7 E 1 (by decide) (by decide) (by rw [hml]; rfl) (argsL := []) (rest := [(.int (2 : Int32))]) (lenOf pd_16 rfl) rfl rfl (Nat.le_of_eq rfl) (hb hby d5_24) (c2 := 0) (s2 := 0) rfl rfl (by decide) (by decide) fun v8 T8 Lc8 L8 X8 l8 hQ8 => ?_
      obtain ⟨rfl, N8q, e8⟩ := hQ8
      have N8 : Fr n0 L8 := by rw [l8]; exact Fr.app N7 N8q
      refine Go.of (fun _ kz => XS.icmpNo X8.here hx rfl (hb hby d5_27) rfl (tlt (by decide : (2 : Int32) < (4 : Int32))).2.1 kz) ?_
      refine Go.of (fun _ kz => XS.aloadN X8.here hx rfl (hb hby d5_30) rfl rfl (XS.iloadN X8.here hx rfl (hb hby d5_31) rfl kz)) ?_
      show Go _ _ _ _ _ T8 (mkF m 32 #[.val (.ref a), .val (.int (2 : Int32)), .val (.int (own_ch u1))] [(.int (2 : Int32)), (.ref a)])
      refine Go.callV X8 hx hZ hown (y := y_11) (z := y_11) (w51 hw) (w52 hw) (notFace_of_selects (args := #[]) (mvT hZ (w54 hw))) (w54 hw) (w53 hw) (w4 hw) (w55 hw) (by decide) (a := a) (rm_ch l Z a0 hw [] a (2 : Int32) cd b kb z vs (own_ch u2) csz vf h0 n0 O0 E Fc Fv Vb Scs hcs Sf hvf Sas Shi Slo (own_narc u2) hch2) e8 E 0 (by decide) (by decide) (by rw [hml]; rfl) (argsL := [(.int (2 : Int32))]) (rest := []) (lenOf pd_15 rfl) rfl rfl (Nat.le_of_eq rfl) (hb hby d5_32) (c2 := 0) (s2 := 0) rfl rfl (by decide) (by decide) fun v9 T9 Lc9 L9 X9 l9 hQ9 => ?_
      obtain ⟨rfl, N9q, e9⟩ := hQ9
      have N9 : Fr n0 L9 := by rw [l9]; exact Fr.app N8 N9q
      refine Go.of (fun _ kz => XS.istoreN X9.here hx rfl (hb hby d5_35) rfl (l' := #[.val (.ref a), .val (.int (2 : Int32)), .val (.int (own_ch u2))]) rfl (XS.iloadN X9.here hx rfl (hb hby d5_36) rfl kz)) ?_
      show Go _ _ _ _ _ T9 (mkF m 37 #[.val (.ref a), .val (.int (2 : Int32)), .val (.int (own_ch u2))] [(.int (own_ch u2))])
      refine Go.callS X9 hx hZ hown (y := y_21) (w73 hw) (w74 hw) (w30 hw) (w75 hw) (by decide) (rm_ial l Z a0 hw [] (own_ch u2) h0 n0 O0) e9 0 (by decide) (by decide) (by rw [hml]; rfl) (argsL := [(.int (own_ch u2))]) (rest := []) (lenOf pd_14 rfl) rfl rfl (Nat.le_of_eq rfl) (hb hby d5_37) (c2 := 0) (s2 := 0) rfl rfl (by decide) (by decide) fun v10 T10 Lc10 L10 X10 l10 hQ10 => ?_
      obtain ⟨rfl, N10q, e10⟩ := hQ10
      have N10 : Fr n0 L10 := by rw [l10]; exact Fr.app N9 N10q
      show Go _ _ _ _ _ T10 (mkF m 40 #[.val (.ref a), .val (.int (2 : Int32)), .val (.int (own_ch u2))] [(.int (own_let (own_ch u2)))])
      have hgo2 : ¬ own_ltr (own_ch u2) = (0 : Int32) → Go p e below (fun oW tW LW => FrameEnd s oW tW LW ({ frames := 5, cells := 0, slots := 0, locals := 66 } : Room).cells ({ frames := 5, cells := 0, slots := 0, locals := 66 } : Room).slots) (Q_rm_nm_4 Z a b kb cd z vs u0 u1 u2 u3 r csz vf h0 n0) T10 (mkF m 63 #[.val (.ref a), .val (.int (2 : Int32)), .val (.int (own_ch u2))] []) := by
        intro hj2
        show Go _ _ _ _ _ T10 (mkF m 63 #[.val (.ref a), .val (.int (2 : Int32)), .val (.int (own_ch u2))] [])
        refine Go.of (fun _ kz => XS.iinc X10.here hx rfl (hb hby d5_63) rfl (l' := #[.val (.ref a), .val (.int (3 : Int32)), .val (.int (own_ch u2))]) rfl (XS.goto X10.here hx rfl (pc0 := 66) (pc' := 22) rfl (hb hby d5_66) (by decide) (by decide) (XS.iloadN X10.here hx rfl (hb hby d5_22) rfl (XS.aloadN X10.here hx rfl (hb hby d5_23) rfl rfl kz)))) ?_
        show Go _ _ _ _ _ T10 (mkF m 24 #[.val (.ref a), .val (.int (3 : Int32)), .val (.int (own_ch u2))] [(.ref a), (.int (3 : Int32))])
        refine Go.callV X10 hx hZ hown (y := y_5) (z := y_5) (w105 hw) (w106 hw) (notFace_of_selects (args := #[]) (mvT hZ (w108 hw))) (w108 hw) (w107 hw) (w4 hw) (w109 hw) (by decide) (a := a) (rm_len l Z a0 hw [] a cd csz b kb z vs (4 : Int32) h0 n0 O0 E Fc Scs hcs hb8 Fv Vb hlen) e10 E 1 (by decide) (by decide) (by rw [hml]; rfl) (argsL := []) (rest := [(.int (3 : Int32))]) (lenOf pd_16 rfl) rfl rfl (Nat.le_of_eq rfl) (hb hby d5_24) (c2 := 0) (s2 := 0) rfl rfl (by decide) (by decide) fun v11 T11 Lc11 L11 X11 l11 hQ11 => ?_
        obtain ⟨rfl, N11q, e11⟩ := hQ11
        have N11 : Fr n0 L11 := by rw [l11]; exact Fr.app N10 N11q
        refine Go.of (fun _ kz => XS.icmpNo X11.here hx rfl (hb hby d5_27) rfl (tlt (by decide : (3 : Int32) < (4 : Int32))).2.1 kz) ?_
        refine Go.of (fun _ kz => XS.aloadN X11.here hx rfl (hb hby d5_30) rfl rfl (XS.iloadN X11.here hx rfl (hb hby d5_31) rfl kz)) ?_
        show Go _ _ _ _ _ T11 (mkF m 32 #[.val (.ref a), .val (.int (3 : Int32)), .val (.int (own_ch u2))] [(.int (3 : Int32)), (.ref a)])
        refine Go.callV X11 hx hZ hown (y := y_11) (z := y_11) (w51 hw) (w52 hw) (notFace_of_selects (args := #[]) (mvT hZ (w54 hw))) (w54 hw) (w53 hw) (w4 hw) (w55 hw) (by decide) (a := a) (rm_ch l Z a0 hw [] a (3 : Int32) cd b kb z vs (own_ch u3) csz vf h0 n0 O0 E Fc Fv Vb Scs hcs Sf hvf Sas Shi Slo (own_narc u3) hch3) e11 E 0 (by decide) (by decide) (by rw [hml]; rfl) (argsL := [(.int (3 : Int32))]) (rest := []) (lenOf pd_15 rfl) rfl rfl (Nat.le_of_eq rfl) (hb hby d5_32) (c2 := 0) (s2 := 0) rfl rfl (by decide) (by decide) fun v12 T12 Lc12 L12 X12 l12 hQ12 => ?_
        obtain ⟨rfl, N12q, e12⟩ := hQ12
        have N12 : Fr n0 L12 := by rw [l12]; exact Fr.app N11 N12q
        refine Go.of (fun _ kz => XS.istoreN X12.here hx rfl (hb hby d5_35) rfl (l' := #[.val (.ref a), .val (.int (3 : Int32)), .val (.int (own_ch u3))]) rfl (XS.iloadN X12.here hx rfl (hb hby d5_36) rfl kz)) ?_
        show Go _ _ _ _ _ T12 (mkF m 37 #[.val (.ref a), .val (.int (3 : Int32)), .val (.int (own_ch u3))] [(.int (own_ch u3))])
        refine Go.callS X12 hx hZ hown (y := y_21) (w73 hw) (w74 hw) (w30 hw) (w75 hw) (by decide) (rm_ial l Z a0 hw [] (own_ch u3) h0 n0 O0) e12 0 (by decide) (by decide) (by rw [hml]; rfl) (argsL := [(.int (own_ch u3))]) (rest := []) (lenOf pd_14 rfl) rfl rfl (Nat.le_of_eq rfl) (hb hby d5_37) (c2 := 0) (s2 := 0) rfl rfl (by decide) (by decide) fun v13 T13 Lc13 L13 X13 l13 hQ13 => ?_
        obtain ⟨rfl, N13q, e13⟩ := hQ13
        have N13 : Fr n0 L13 := by rw [l13]; exact Fr.app N12 N13q
        show Go _ _ _ _ _ T13 (mkF m 40 #[.val (.ref a), .val (.int (3 : Int32)), .val (.int (own_ch u3))] [(.int (own_let (own_ch u3)))])
        have hgo3 : ¬ own_ltr (own_ch u3) = (0 : Int32) → Go p e below (fun oW tW LW => FrameEnd s oW tW LW ({ frames := 5, cells := 0, slots := 0, locals := 66 } : Room).cells ({ frames := 5, cells := 0, slots := 0, locals := 66 } : Room).slots) (Q_rm_nm_4 Z a b kb cd z vs u0 u1 u2 u3 r csz vf h0 n0) T13 (mkF m 63 #[.val (.ref a), .val (.int (3 : Int32)), .val (.int (own_ch u3))] []) := by
          intro hj3
          show Go _ _ _ _ _ T13 (mkF m 63 #[.val (.ref a), .val (.int (3 : Int32)), .val (.int (own_ch u3))] [])
          refine Go.of (fun _ kz => XS.iinc X13.here hx rfl (hb hby d5_63) rfl (l' := #[.val (.ref a), .val (.int (4 : Int32)), .val (.int (own_ch u3))]) rfl (XS.goto X13.here hx rfl (pc0 := 66) (pc' := 22) rfl (hb hby d5_66) (by decide) (by decide) (XS.iloadN X13.here hx rfl (hb hby d5_22) rfl (XS.aloadN X13.here hx rfl (hb hby d5_23) rfl rfl kz)))) ?_
          show Go _ _ _ _ _ T13 (mkF m 24 #[.val (.ref a), .val (.int (4 : Int32)), .val (.int (own_ch u3))] [(.ref a), (.int (4 : Int32))])
          refine Go.callV X13 hx hZ hown (y := y_5) (z := y_5) (w105 hw) (w106 hw) (notFace_of_selects (args := #[]) (mvT hZ (w108 hw))) (w108 hw) (w107 hw) (w4 hw) (w109 hw) (by decide) (a := a) (rm_len l Z a0 hw [] a cd csz b kb z vs (4 : Int32) h0 n0 O0 E Fc Scs hcs hb8 Fv Vb hlen) e13 E 1 (by decide) (by decide) (by rw [hml]; rfl) (argsL := []) (rest := [(.int (4 : Int32))]) (lenOf pd_16 rfl) rfl rfl (Nat.le_of_eq rfl) (hb hby d5_24) (c2 := 0) (s2 := 0) rfl rfl (by decide) (by decide) fun v14 T14 Lc14 L14 X14 l14 hQ14 => ?_
          obtain ⟨rfl, N14q, e14⟩ := hQ14
          have N14 : Fr n0 L14 := by rw [l14]; exact Fr.app N13 N14q
          refine Go.of (fun _ kz => XS.icmpYes X14.here hx rfl (pc0 := 27) (pc' := 69) rfl (hb hby d5_27) rfl (flt (by decide : ¬ (4 : Int32) < (4 : Int32))).2.1 (by decide) (by decide) kz) ?_
          refine Go.of (fun _ kz => XS.iconst X14.here hx rfl (hb hby d5_69) kz) ?_
          refine Go.ret X14 (v := some (.int (1 : Int32))) (fun h => by rw [Bd.returns] at h; cases h) Bd.notSynchronized (fun fs hr => retN X14 hx (t := .boolean) Bd.returns (by simp) (hb hby d5_70) hr) (by decide) (by decide) ?_
          show Q_rm_nm_4 Z _ _ _ _ _ _ _ _ _ _ _ _ _ h0 n0 _ T14.heap _
          rw [e14]
          exact ⟨by rw [← hr]; simp [own_nm, own_all, hc15_4, hj1, hj2, hj3], N14, rfl⟩
        by_cases hc40_15 : (own_let (own_ch u3)) = (0 : Int32)
        · refine Go.of (fun _ kz => XS.ifNo X13.here hx rfl (hb hby d5_40) rfl ((if0 _ _).trans (teq hc40_15).2) kz) ?_
          refine Go.of (fun _ kz => XS.iloadN X13.here hx rfl (hb hby d5_43) rfl (XS.bipush X13.here hx rfl (hb hby d5_44) kz)) ?_
          by_cases hc46_16 : (own_ch u3) < (48 : Int32)
          · refine Go.of (fun _ kz => XS.icmpYes X13.here hx rfl (pc0 := 46) (pc' := 55) rfl (hb hby d5_46) rfl (tlt hc46_16).1 (by decide) (by decide) kz) ?_
            refine Go.of (fun _ kz => XS.iloadN X13.here hx rfl (hb hby d5_55) rfl (XS.bipush X13.here hx rfl (hb hby d5_56) kz)) ?_
            by_cases hc58_17 : (own_ch u3) = (95 : Int32)
            · refine Go.of (fun _ kz => XS.icmpYes X13.here hx rfl (pc0 := 58) (pc' := 63) rfl (hb hby d5_58) rfl (teq hc58_17).1 (by decide) (by decide) kz) ?_
              show Go _ _ _ _ _ T13 (mkF m 63 #[.val (.ref a), .val (.int (3 : Int32)), .val (.int (own_ch u3))] [])
              exact hgo3 (by simp [own_ltr, hc40_15, hc46_16, hc58_17])
            · refine Go.of (fun _ kz => XS.icmpNo X13.here hx rfl (hb hby d5_58) rfl (feq hc58_17).1 kz) ?_
              show Go _ _ _ _ _ T13 (mkF m 61 #[.val (.ref a), .val (.int (3 : Int32)), .val (.int (own_ch u3))] [])
              have hj3 : own_ltr (own_ch u3) = (0 : Int32) := by simp [own_ltr, hc40_15, hc46_16, hc58_17]
              refine Go.of (fun _ kz => XS.iconst X13.here hx rfl (hb hby d5_61) kz) ?_
              refine Go.ret X13 (v := some (.int (0 : Int32))) (fun h => by rw [Bd.returns] at h; cases h) Bd.notSynchronized (fun fs hr => retN X13 hx (t := .boolean) Bd.returns (by simp) (hb hby d5_62) hr) (by decide) (by decide) ?_
              show Q_rm_nm_4 Z _ _ _ _ _ _ _ _ _ _ _ _ _ h0 n0 _ T13.heap _
              rw [e13]
              exact ⟨by rw [← hr]; simp [own_nm, own_all, hc15_4, hj1, hj2, hj3], N13, rfl⟩
          · refine Go.of (fun _ kz => XS.icmpNo X13.here hx rfl (hb hby d5_46) rfl (flt hc46_16).1 kz) ?_
            refine Go.of (fun _ kz => XS.iloadN X13.here hx rfl (hb hby d5_49) rfl (XS.bipush X13.here hx rfl (hb hby d5_50) kz)) ?_
            by_cases hc52_18 : (57 : Int32) < (own_ch u3)
            · refine Go.of (fun _ kz => XS.icmpNo X13.here hx rfl (hb hby d5_52) rfl (tlt hc52_18).2.2.2 kz) ?_
              show Go _ _ _ _ _ T13 (mkF m 55 #[.val (.ref a), .val (.int (3 : Int32)), .val (.int (own_ch u3))] [])
              refine Go.of (fun _ kz => XS.iloadN X13.here hx rfl (hb hby d5_55) rfl (XS.bipush X13.here hx rfl (hb hby d5_56) kz)) ?_
              by_cases hc58_19 : (own_ch u3) = (95 : Int32)
              · refine Go.of (fun _ kz => XS.icmpYes X13.here hx rfl (pc0 := 58) (pc' := 63) rfl (hb hby d5_58) rfl (teq hc58_19).1 (by decide) (by decide) kz) ?_
                show Go _ _ _ _ _ T13 (mkF m 63 #[.val (.ref a), .val (.int (3 : Int32)), .val (.int (own_ch u3))] [])
                exact hgo3 (by simp [own_ltr, hc40_15, hc46_16, hc52_18, hc58_19])
              · refine Go.of (fun _ kz => XS.icmpNo X13.here hx rfl (hb hby d5_58) rfl (feq hc58_19).1 kz) ?_
                show Go _ _ _ _ _ T13 (mkF m 61 #[.val (.ref a), .val (.int (3 : Int32)), .val (.int (own_ch u3))] [])
                have hj3 : own_ltr (own_ch u3) = (0 : Int32) := by simp [own_ltr, hc40_15, hc46_16, hc52_18, hc58_19]
                refine Go.of (fun _ kz => XS.iconst X13.here hx rfl (hb hby d5_61) kz) ?_
                refine Go.ret X13 (v := some (.int (0 : Int32))) (fun h => by rw [Bd.returns] at h; cases h) Bd.notSynchronized (fun fs hr => retN X13 hx (t := .boolean) Bd.returns (by simp) (hb hby d5_62) hr) (by decide) (by decide) ?_
                show Q_rm_nm_4 Z _ _ _ _ _ _ _ _ _ _ _ _ _ h0 n0 _ T13.heap _
                rw [e13]
                exact ⟨by rw [← hr]; simp [own_nm, own_all, hc15_4, hj1, hj2, hj3], N13, rfl⟩
            · refine Go.of (fun _ kz => XS.icmpYes X13.here hx rfl (pc0 := 52) (pc' := 63) rfl (hb hby d5_52) rfl (flt hc52_18).2.2.2 (by decide) (by decide) kz) ?_
              show Go _ _ _ _ _ T13 (mkF m 63 #[.val (.ref a), .val (.int (3 : Int32)), .val (.int (own_ch u3))] [])
              exact hgo3 (by simp [own_ltr, hc40_15, hc46_16, hc52_18])
        · refine Go.of (fun _ kz => XS.ifYes X13.here hx rfl (pc0 := 40) (pc' := 63) rfl (hb hby d5_40) rfl ((if0 _ _).trans (feq hc40_15).2) (by decide) (by decide) kz) ?_
          show Go _ _ _ _ _ T13 (mkF m 63 #[.val (.ref a), .val (.int (3 : Int32)), .val (.int (own_ch u3))] [])
          exact hgo3 (by simp [own_ltr, hc40_15])
      by_cases hc40_20 : (own_let (own_ch u2)) = (0 : Int32)
      · refine Go.of (fun _ kz => XS.ifNo X10.here hx rfl (hb hby d5_40) rfl ((if0 _ _).trans (teq hc40_20).2) kz) ?_
        refine Go.of (fun _ kz => XS.iloadN X10.here hx rfl (hb hby d5_43) rfl (XS.bipush X10.here hx rfl (hb hby d5_44) kz)) ?_
        by_cases hc46_21 : (own_ch u2) < (48 : Int32)
        · refine Go.of (fun _ kz => XS.icmpYes X10.here hx rfl (pc0 := 46) (pc' := 55) rfl (hb hby d5_46) rfl (tlt hc46_21).1 (by decide) (by decide) kz) ?_
          refine Go.of (fun _ kz => XS.iloadN X10.here hx rfl (hb hby d5_55) rfl (XS.bipush X10.here hx rfl (hb hby d5_56) kz)) ?_
          by_cases hc58_22 : (own_ch u2) = (95 : Int32)
          · refine Go.of (fun _ kz => XS.icmpYes X10.here hx rfl (pc0 := 58) (pc' := 63) rfl (hb hby d5_58) rfl (teq hc58_22).1 (by decide) (by decide) kz) ?_
            show Go _ _ _ _ _ T10 (mkF m 63 #[.val (.ref a), .val (.int (2 : Int32)), .val (.int (own_ch u2))] [])
            exact hgo2 (by simp [own_ltr, hc40_20, hc46_21, hc58_22])
          · refine Go.of (fun _ kz => XS.icmpNo X10.here hx rfl (hb hby d5_58) rfl (feq hc58_22).1 kz) ?_
            show Go _ _ _ _ _ T10 (mkF m 61 #[.val (.ref a), .val (.int (2 : Int32)), .val (.int (own_ch u2))] [])
            have hj2 : own_ltr (own_ch u2) = (0 : Int32) := by simp [own_ltr, hc40_20, hc46_21, hc58_22]
            refine Go.of (fun _ kz => XS.iconst X10.here hx rfl (hb hby d5_61) kz) ?_
            refine Go.ret X10 (v := some (.int (0 : Int32))) (fun h => by rw [Bd.returns] at h; cases h) Bd.notSynchronized (fun fs hr => retN X10 hx (t := .boolean) Bd.returns (by simp) (hb hby d5_62) hr) (by decide) (by decide) ?_
            show Q_rm_nm_4 Z _ _ _ _ _ _ _ _ _ _ _ _ _ h0 n0 _ T10.heap _
            rw [e10]
            exact ⟨by rw [← hr]; simp [own_nm, own_all, hc15_4, hj1, hj2], N10, rfl⟩
        · refine Go.of (fun _ kz => XS.icmpNo X10.here hx rfl (hb hby d5_46) rfl (flt hc46_21).1 kz) ?_
          refine Go.of (fun _ kz => XS.iloadN X10.here hx rfl (hb hby d5_49) rfl (XS.bipush X10.here hx rfl (hb hby d5_50) kz)) ?_
          by_cases hc52_23 : (57 : Int32) < (own_ch u2)
          · refine Go.of (fun _ kz => XS.icmpNo X10.here hx rfl (hb hby d5_52) rfl (tlt hc52_23).2.2.2 kz) ?_
            show Go _ _ _ _ _ T10 (mkF m 55 #[.val (.ref a), .val (.int (2 : Int32)), .val (.int (own_ch u2))] [])
            refine Go.of (fun _ kz => XS.iloadN X10.here hx rfl (hb hby d5_55) rfl (XS.bipush X10.here hx rfl (hb hby d5_56) kz)) ?_
            by_cases hc58_24 : (own_ch u2) = (95 : Int32)
            · refine Go.of (fun _ kz => XS.icmpYes X10.here hx rfl (pc0 := 58) (pc' := 63) rfl (hb hby d5_58) rfl (teq hc58_24).1 (by decide) (by decide) kz) ?_
              show Go _ _ _ _ _ T10 (mkF m 63 #[.val (.ref a), .val (.int (2 : Int32)), .val (.int (own_ch u2))] [])
              exact hgo2 (by simp [own_ltr, hc40_20, hc46_21, hc52_23, hc58_24])
            · refine Go.of (fun _ kz => XS.icmpNo X10.here hx rfl (hb hby d5_58) rfl (feq hc58_24).1 kz) ?_
              show Go _ _ _ _ _ T10 (mkF m 61 #[.val (.ref a), .val (.int (2 : Int32)), .val (.int (own_ch u2))] [])
              have hj2 : own_ltr (own_ch u2) = (0 : Int32) := by simp [own_ltr, hc40_20, hc46_21, hc52_23, hc58_24]
              refine Go.of (fun _ kz => XS.iconst X10.here hx rfl (hb hby d5_61) kz) ?_
              refine Go.ret X10 (v := some (.int (0 : Int32))) (fun h => by rw [Bd.returns] at h; cases h) Bd.notSynchronized (fun fs hr => retN X10 hx (t := .boolean) Bd.returns (by simp) (hb hby d5_62) hr) (by decide) (by decide) ?_
              show Q_rm_nm_4 Z _ _ _ _ _ _ _ _ _ _ _ _ _ h0 n0 _ T10.heap _
              rw [e10]
              exact ⟨by rw [← hr]; simp [own_nm, own_all, hc15_4, hj1, hj2], N10, rfl⟩
          · refine Go.of (fun _ kz => XS.icmpYes X10.here hx rfl (pc0 := 52) (pc' := 63) rfl (hb hby d5_52) rfl (flt hc52_23).2.2.2 (by decide) (by decide) kz) ?_
            show Go _ _ _ _ _ T10 (mkF m 63 #[.val (.ref a), .val (.int (2 : Int32)), .val (.int (own_ch u2))] [])
            exact hgo2 (by simp [own_ltr, hc40_20, hc46_21, hc52_23])
      · refine Go.of (fun _ kz => XS.ifYes X10.here hx rfl (pc0 := 40) (pc' := 63) rfl (hb hby d5_40) rfl ((if0 _ _).trans (feq hc40_20).2) (by decide) (by decide) kz) ?_
        show Go _ _ _ _ _ T10 (mkF m 63 #[.val (.ref a), .val (.int (2 : Int32)), .val (.int (own_ch u2))] [])
        exact hgo2 (by simp [own_ltr, hc40_20])
    by_cases hc40_25 : (own_let (own_ch u1)) = (0 : Int32)
    · refine Go.of (fun _ kz => XS.ifNo X7.here hx rfl (hb hby d5_40) rfl ((if0 _ _).trans (teq hc40_25).2) kz) ?_
      refine Go.of (fun _ kz => XS.iloadN X7.here hx rfl (hb hby d5_43) rfl (XS.bipush X7.here hx rfl (hb hby d5_44) kz)) ?_
      by_cases hc46_26 : (own_ch u1) < (48 : Int32)
      · refine Go.of (fun _ kz => XS.icmpYes X7.here hx rfl (pc0 := 46) (pc' := 55) rfl (hb hby d5_46) rfl (tlt hc46_26).1 (by decide) (by decide) kz) ?_
        refine Go.of (fun _ kz => XS.iloadN X7.here hx rfl (hb hby d5_55) rfl (XS.bipush X7.here hx rfl (hb hby d5_56) kz)) ?_
        by_cases hc58_27 : (own_ch u1) = (95 : Int32)
        · refine Go.of (fun _ kz => XS.icmpYes X7.here hx rfl (pc0 := 58) (pc' := 63) rfl (hb hby d5_58) rfl (teq hc58_27).1 (by decide) (by decide) kz) ?_
          show Go _ _ _ _ _ T7 (mkF m 63 #[.val (.ref a), .val (.int (1 : Int32)), .val (.int (own_ch u1))] [])
          exact hgo1 (by simp [own_ltr, hc40_25, hc46_26, hc58_27])
        · refine Go.of (fun _ kz => XS.icmpNo X7.here hx rfl (hb hby d5_58) rfl (feq hc58_27).1 kz) ?_
          show Go _ _ _ _ _ T7 (mkF m 61 #[.val (.ref a), .val (.int (1 : Int32)), .val (.int (own_ch u1))] [])
          have hj1 : own_ltr (own_ch u1) = (0 : Int32) := by simp [own_ltr, hc40_25, hc46_26, hc58_27]
          refine Go.of (fun _ kz => XS.iconst X7.here hx rfl (hb hby d5_61) kz) ?_
          refine Go.ret X7 (v := some (.int (0 : Int32))) (fun h => by rw [Bd.returns] at h; cases h) Bd.notSynchronized (fun fs hr => retN X7 hx (t := .boolean) Bd.returns (by simp) (hb hby d5_62) hr) (by decide) (by decide) ?_
          show Q_rm_nm_4 Z _ _ _ _ _ _ _ _ _ _ _ _ _ h0 n0 _ T7.heap _
          rw [e7]
          exact ⟨by rw [← hr]; simp [own_nm, own_all, hc15_4, hj1], N7, rfl⟩
      · refine Go.of (fun _ kz => XS.icmpNo X7.here hx rfl (hb hby d5_46) rfl (flt hc46_26).1 kz) ?_
        refine Go.of (fun _ kz => XS.iloadN X7.here hx rfl (hb hby d5_49) rfl (XS.bipush X7.here hx rfl (hb hby d5_50) kz)) ?_
        by_cases hc52_28 : (57 : Int32) < (own_ch u1)
        · refine Go.of (fun _ kz => XS.icmpNo X7.here hx rfl (hb hby d5_52) rfl (tlt hc52_28).2.2.2 kz) ?_
          show Go _ _ _ _ _ T7 (mkF m 55 #[.val (.ref a), .val (.int (1 : Int32)), .val (.int (own_ch u1))] [])
          refine Go.of (fun _ kz => XS.iloadN X7.here hx rfl (hb hby d5_55) rfl (XS.bipush X7.here hx rfl (hb hby d5_56) kz)) ?_
          by_cases hc58_29 : (own_ch u1) = (95 : Int32)
          · refine Go.of (fun _ kz => XS.icmpYes X7.here hx rfl (pc0 := 58) (pc' := 63) rfl (hb hby d5_58) rfl (teq hc58_29).1 (by decide) (by decide) kz) ?_
            show Go _ _ _ _ _ T7 (mkF m 63 #[.val (.ref a), .val (.int (1 : Int32)), .val (.int (own_ch u1))] [])
            exact hgo1 (by simp [own_ltr, hc40_25, hc46_26, hc52_28, hc58_29])
          · refine Go.of (fun _ kz => XS.icmpNo X7.here hx rfl (hb hby d5_58) rfl (feq hc58_29).1 kz) ?_
            show Go _ _ _ _ _ T7 (mkF m 61 #[.val (.ref a), .val (.int (1 : Int32)), .val (.int (own_ch u1))] [])
            have hj1 : own_ltr (own_ch u1) = (0 : Int32) := by simp [own_ltr, hc40_25, hc46_26, hc52_28, hc58_29]
            refine Go.of (fun _ kz => XS.iconst X7.here hx rfl (hb hby d5_61) kz) ?_
            refine Go.ret X7 (v := some (.int (0 : Int32))) (fun h => by rw [Bd.returns] at h; cases h) Bd.notSynchronized (fun fs hr => retN X7 hx (t := .boolean) Bd.returns (by simp) (hb hby d5_62) hr) (by decide) (by decide) ?_
            show Q_rm_nm_4 Z _ _ _ _ _ _ _ _ _ _ _ _ _ h0 n0 _ T7.heap _
            rw [e7]
            exact ⟨by rw [← hr]; simp [own_nm, own_all, hc15_4, hj1], N7, rfl⟩
        · refine Go.of (fun _ kz => XS.icmpYes X7.here hx rfl (pc0 := 52) (pc' := 63) rfl (hb hby d5_52) rfl (flt hc52_28).2.2.2 (by decide) (by decide) kz) ?_
          show Go _ _ _ _ _ T7 (mkF m 63 #[.val (.ref a), .val (.int (1 : Int32)), .val (.int (own_ch u1))] [])
          exact hgo1 (by simp [own_ltr, hc40_25, hc46_26, hc52_28])
    · refine Go.of (fun _ kz => XS.ifYes X7.here hx rfl (pc0 := 40) (pc' := 63) rfl (hb hby d5_40) rfl ((if0 _ _).trans (feq hc40_25).2) (by decide) (by decide) kz) ?_
      show Go _ _ _ _ _ T7 (mkF m 63 #[.val (.ref a), .val (.int (1 : Int32)), .val (.int (own_ch u1))] [])
      exact hgo1 (by simp [own_ltr, hc40_25])

theorem ef_rm_nm_5 (m : MethodId) (x0 : Addr) : entryFrame m #[(.ref x0)] 3 = mkF m 0 #[.val (.ref x0), .unset, .unset] [] := by first | (simp [entryFrame, mkF, argsToLocals, Value.category]; done) | rfl
def Q_rm_nm_5 (Z : State) (a : Addr) (b : Addr) (kb : ClassId) (cd : Int32) (z : Int32) (vs : List Value) (u0 : UInt16) (u1 : UInt16) (u2 : UInt16) (u3 : UInt16) (u4 : UInt16) (r : Int32) (csz : Int32) (vf : Value) (h0 : Heap) (n0 : Nat) (v : Option Value) (h : Heap) (L : List Loc) : Prop := v = some (.int r) ∧ Fr n0 L ∧ h = h0
set_option maxRecDepth 65536 in
set_option maxHeartbeats 40000000 in
theorem rm_nm_5 (l : Launch) (Z : State) (a0 : Array Value) (hw : ∀ d ∈ tables_1, d.before a0 Z = true) (wz : List Jvm.Cond) (a : Addr) (b : Addr) (kb : ClassId) (cd : Int32) (z : Int32) (vs : List Value) (u0 : UInt16) (u1 : UInt16) (u2 : UInt16) (u3 : UInt16) (u4 : UInt16) (r : Int32) (csz : Int32) (vf : Value) (h0 : Heap) (n0 : Nat) (O0 : Old Z n0 h0) (E : Exa Z h0 a "java/lang/String") (Fc : Fld Z h0 a "java/lang/String" "coder" "B" (.int cd)) (Fv : Fld Z h0 a "java/lang/String" "value" "[B" (.ref b)) (Vb : Arv Z h0 b kb .byte z vs (.int (0 : Int32))) (Scs : Sta Z Z.heap "java/lang/String" "COMPACT_STRINGS" "Z" (.int csz)) (hcs : ¬ csz = (0 : Int32)) (Sf : Sta Z Z.heap "jdk/internal/util/Preconditions" "SIOOBE_FORMATTER" "Ljava/util/function/BiFunction;" vf) (hvf : vf.isRef = true) (Sas : Sta Z Z.heap "java/lang/StringUTF16" "$assertionsDisabled" "Z" (.int (1 : Int32))) (Shi : Sta Z Z.heap "java/lang/StringUTF16" "HI_BYTE_SHIFT" "I" (.int (0 : Int32))) (Slo : Sta Z Z.heap "java/lang/StringUTF16" "LO_BYTE_SHIFT" "I" (.int (8 : Int32))) (hb8 : nar .byte cd = cd) (hD : (cd = (0 : Int32) ∧ z = (5 : Int32) ∧ vs = [(.int ((own_lo u0).toInt32)), (.int ((own_lo u1).toInt32)), (.int ((own_lo u2).toInt32)), (.int ((own_lo u3).toInt32)), (.int ((own_lo u4).toInt32))] ∧ (¬ (255 : Int32) < (own_ch u0) ∧ ¬ (255 : Int32) < (own_ch u1) ∧ ¬ (255 : Int32) < (own_ch u2) ∧ ¬ (255 : Int32) < (own_ch u3) ∧ ¬ (255 : Int32) < (own_ch u4))) ∨ (cd = (1 : Int32) ∧ z = (10 : Int32) ∧ vs = [(.int ((own_lo0 u0).toInt32)), (.int ((own_hi8 u0).toInt32)), (.int ((own_lo0 u1).toInt32)), (.int ((own_hi8 u1).toInt32)), (.int ((own_lo0 u2).toInt32)), (.int ((own_hi8 u2).toInt32)), (.int ((own_lo0 u3).toInt32)), (.int ((own_hi8 u3).toInt32)), (.int ((own_lo0 u4).toInt32)), (.int ((own_hi8 u4).toInt32))])) (hr : own_nm [u0, u1, u2, u3, u4] = r) :
    MetFree l y_24 (head1 (Jvm.Cond.code y_24 prog_60_method_3_code 3 (some .boolean) :: wz) ({ frames := 5, cells := 0, slots := 0, locals := 66 } : Room)) (fun aZ UZ => aZ = #[(.ref a)] ∧ Z.Warmed39 UZ.vm ∧ UZ.heap = h0) (fun _ _ _ _ _ => True) (fun _ UZ oZ UY => ∃ vZ LZ, oZ = .returned vZ ∧ Q_rm_nm_5 Z a b kb cd z vs u0 u1 u2 u3 u4 r csz vf h0 n0 vZ UY.heap LZ ∧ FrameEnd UZ oZ UY LZ ({ frames := 5, cells := 0, slots := 0, locals := 66 } : Room).cells ({ frames := 5, cells := 0, slots := 0, locals := 66 } : Room).slots) := by
  refine MetFree.of_bodySF (plainFor_of_name pn_5) hisR ?_
  intro p e s m args below meth c s₁ Bd hml0 hP hK
  obtain ⟨rfl, hZ, hh⟩ := hP
  have hx := Bd.exec
  have hby := Bd.bytes
  have hml : c.maxLocals = 3 := hml0
  have hown : s.vm.findClass "com/example/fulla/fulla/model/Lattice" = some m.cls := findClass_of_methodNamed Bd.named
  have hnm := (name_of_methodNamed Bd.named Bd.method).1
  have X0 : Stand p l e ({ frames := 5, cells := 0, slots := 0, locals := 66 } : Room) s m #[(.ref a)] below meth c s₁ [] 0 0 := Stand.of_body Bd
  have e0 : s₁.heap = h0 := by rw [← hh, Bd.state]; rfl
  have N0 := Fr.nil n0
  have Z0 : n0 ≤ h0.size := O0.1 ▸ O0.2.1
  have K0 := Keep.refl h0 []
  show Go p e below (fun oW tW LW => FrameEnd s oW tW LW ({ frames := 5, cells := 0, slots := 0, locals := 66 } : Room).cells ({ frames := 5, cells := 0, slots := 0, locals := 66 } : Room).slots) (Q_rm_nm_5 Z a b kb cd z vs u0 u1 u2 u3 u4 r csz vf h0 n0) s₁ (entryFrame m #[(.ref a)] 3)
  refine Go.of (fun t kz => castTop (ef_rm_nm_5 m a) kz) ?_
  have hemp : (if z = (0 : Int32) then (1 : Int32) else 0) = 0 := by rcases hD with ⟨-, rfl, -⟩ | ⟨-, rfl, -⟩ <;> decide
  have hlen : (z >>> (cd &&& 31)) = (5 : Int32) := by rcases hD with ⟨rfl, rfl, -⟩ | ⟨rfl, rfl, -⟩ <;> decide
  have hch0 : (cd = (0 : Int32) ∧ own_LP vs (0 : Int32) z (own_ch u0)) ∨ (cd = (1 : Int32) ∧ own_UP vs (0 : Int32) z (own_ch u0)) := by
    rcases hD with ⟨rfl, rfl, rfl, hl⟩ | ⟨rfl, rfl, rfl⟩
    · exact Or.inl ⟨rfl, ⟨by decide, by decide⟩, _, rfl, own_lat u0 hl.1⟩
    · exact Or.inr ⟨rfl, ⟨by decide, by decide⟩, ⟨by decide, by decide⟩, ⟨by decide, by decide⟩, _, _, rfl, rfl, own_get u0⟩
  have hch1 : (cd = (0 : Int32) ∧ own_LP vs (1 : Int32) z (own_ch u1)) ∨ (cd = (1 : Int32) ∧ own_UP vs (1 : Int32) z (own_ch u1)) := by
    rcases hD with ⟨rfl, rfl, rfl, hl⟩ | ⟨rfl, rfl, rfl⟩
    · exact Or.inl ⟨rfl, ⟨by decide, by decide⟩, _, rfl, own_lat u1 hl.2.1⟩
    · exact Or.inr ⟨rfl, ⟨by decide, by decide⟩, ⟨by decide, by decide⟩, ⟨by decide, by decide⟩, _, _, rfl, rfl, own_get u1⟩
  have hch2 : (cd = (0 : Int32) ∧ own_LP vs (2 : Int32) z (own_ch u2)) ∨ (cd = (1 : Int32) ∧ own_UP vs (2 : Int32) z (own_ch u2)) := by
    rcases hD with ⟨rfl, rfl, rfl, hl⟩ | ⟨rfl, rfl, rfl⟩
    · exact Or.inl ⟨rfl, ⟨by decide, by decide⟩, _, rfl, own_lat u2 hl.2.2.1⟩
    · exact Or.inr ⟨rfl, ⟨by decide, by decide⟩, ⟨by decide, by decide⟩, ⟨by decide, by decide⟩, _, _, rfl, rfl, own_get u2⟩
  have hch3 : (cd = (0 : Int32) ∧ own_LP vs (3 : Int32) z (own_ch u3)) ∨ (cd = (1 : Int32) ∧ own_UP vs (3 : Int32) z (own_ch u3)) := by
    rcases hD with ⟨rfl, rfl, rfl, hl⟩ | ⟨rfl, rfl, rfl⟩
    · exact Or.inl ⟨rfl, ⟨by decide, by decide⟩, _, rfl, own_lat u3 hl.2.2.2.1⟩
    · exact Or.inr ⟨rfl, ⟨by decide, by decide⟩, ⟨by decide, by decide⟩, ⟨by decide, by decide⟩, _, _, rfl, rfl, own_get u3⟩
  have hch4 : (cd = (0 : Int32) ∧ own_LP vs (4 : Int32) z (own_ch u4)) ∨ (cd = (1 : Int32) ∧ own_UP vs (4 : Int32) z (own_ch u4)) := by
    rcases hD with ⟨rfl, rfl, rfl, hl⟩ | ⟨rfl, rfl, rfl⟩
    · exact Or.inl ⟨rfl, ⟨by decide, by decide⟩, _, rfl, own_lat u4 hl.2.2.2.2⟩
    · exact Or.inr ⟨rfl, ⟨by decide, by decide⟩, ⟨by decide, by decide⟩, ⟨by decide, by decide⟩, _, _, rfl, rfl, own_get u4⟩
  show Go _ _ _ _ _ s₁ (mkF m 0 #[.val (.ref a), .unset, .unset] [])
  refine Go.of (fun _ kz => XS.aloadN X0.here hx rfl (hb hby d5_0) rfl rfl kz) ?_
  show Go _ _ _ _ _ s₁ (mkF m 1 #[.val (.ref a), .unset, .unset] [(.ref a)])
  refine Go.callV X0 hx hZ hown (y := y_6) (z := y_6) (w32 hw) (w33 hw) (notFace_of_selects (args := #[]) (mvT hZ (w35 hw))) (w35 hw) (w34 hw) (w4 hw) (w36 hw) (by decide) (a := a) (rm_emp l Z a0 hw [] a b kb z vs 0 h0 n0 O0 Fv Vb hemp) e0 E 0 (by decide) (by decide) (by rw [hml]; rfl) (argsL := []) (rest := []) (lenOf pd_6 rfl) rfl rfl (Nat.le_of_eq rfl) (hb hby d5_1) (c2 := 0) (s2 := 0) rfl rfl (by decide) (by decide) fun v1 T1 Lc1 L1 X1 l1 hQ1 => ?_
  obtain ⟨rfl, N1q, e1⟩ := hQ1
  have N1 : Fr n0 L1 := by rw [l1]; exact Fr.app N0 N1q
  refine Go.of (fun _ kz => XS.ifNo X1.here hx rfl (hb hby d5_4) rfl ((if0 _ _).trans (teq (by decide : (0 : Int32) = (0 : Int32))).2) kz) ?_
  refine Go.of (fun _ kz => XS.aloadN X1.here hx rfl (hb hby d5_7) rfl rfl (XS.iconst X1.here hx rfl (hb hby d5_8) kz)) ?_
  show Go _ _ _ _ _ T1 (mkF m 9 #[.val (.ref a), .unset, .unset] [(.int (0 : Int32)), (.ref a)])
  refine Go.callV X1 hx hZ hown (y := y_11) (z := y_11) (w51 hw) (w52 hw) (notFace_of_selects (args := #[]) (mvT hZ (w54 hw))) (w54 hw) (w53 hw) (w4 hw) (w55 hw) (by decide) (a := a) (rm_ch l Z a0 hw [] a (0 : Int32) cd b kb z vs (own_ch u0) csz vf h0 n0 O0 E Fc Fv Vb Scs hcs Sf hvf Sas Shi Slo (own_narc u0) hch0) e1 E 0 (by decide) (by decide) (by rw [hml]; rfl) (argsL := [(.int (0 : Int32))]) (rest := []) (lenOf pd_15 rfl) rfl rfl (Nat.le_of_eq rfl) (hb hby d5_9) (c2 := 0) (s2 := 0) rfl rfl (by decide) (by decide) fun v2 T2 Lc2 L2 X2 l2 hQ2 => ?_
  obtain ⟨rfl, N2q, e2⟩ := hQ2
  have N2 : Fr n0 L2 := by rw [l2]; exact Fr.app N1 N2q
  show Go _ _ _ _ _ T2 (mkF m 12 #[.val (.ref a), .unset, .unset] [(.int (own_ch u0))])
  refine Go.callS X2 hx hZ hown (y := y_21) (w73 hw) (w74 hw) (w30 hw) (w75 hw) (by decide) (rm_ial l Z a0 hw [] (own_ch u0) h0 n0 O0) e2 0 (by decide) (by decide) (by rw [hml]; rfl) (argsL := [(.int (own_ch u0))]) (rest := []) (lenOf pd_14 rfl) rfl rfl (Nat.le_of_eq rfl) (hb hby d5_12) (c2 := 0) (s2 := 0) rfl rfl (by decide) (by decide) fun v3 T3 Lc3 L3 X3 l3 hQ3 => ?_
  obtain ⟨rfl, N3q, e3⟩ := hQ3
  have N3 : Fr n0 L3 := by rw [l3]; exact Fr.app N2 N3q
  by_cases hc15_4 : (own_let (own_ch u0)) = (0 : Int32)
  · refine Go.of (fun _ kz => XS.ifNo X3.here hx rfl (hb hby d5_15) rfl ((if0 _ _).trans (teq hc15_4).2) kz) ?_
    refine Go.of (fun _ kz => XS.iconst X3.here hx rfl (hb hby d5_18) kz) ?_
    refine Go.ret X3 (v := some (.int (0 : Int32))) (fun h => by rw [Bd.returns] at h; cases h) Bd.notSynchronized (fun fs hr => retN X3 hx (t := .boolean) Bd.returns (by simp) (hb hby d5_19) hr) (by decide) (by decide) ?_
    show Q_rm_nm_5 Z _ _ _ _ _ _ _ _ _ _ _ _ _ _ h0 n0 _ T3.heap _
    rw [e3]
    exact ⟨by rw [← hr]; simp [own_nm, own_all, hc15_4], N3, rfl⟩
  · refine Go.of (fun _ kz => XS.ifYes X3.here hx rfl (pc0 := 15) (pc' := 20) rfl (hb hby d5_15) rfl ((if0 _ _).trans (feq hc15_4).2) (by decide) (by decide) kz) ?_
    refine Go.of (fun _ kz => XS.iconst X3.here hx rfl (hb hby d5_20) (XS.istoreN X3.here hx rfl (hb hby d5_21) rfl (l' := #[.val (.ref a), .val (.int (1 : Int32)), .unset]) rfl (XS.iloadN X3.here hx rfl (hb hby d5_22) rfl (XS.aloadN X3.here hx rfl (hb hby d5_23) rfl rfl kz)))) ?_
    show Go _ _ _ _ _ T3 (mkF m 24 #[.val (.ref a), .val (.int (1 : Int32)), .unset] [(.ref a), (.int (1 : Int32))])
    refine Go.callV X3 hx hZ hown (y := y_5) (z := y_5) (w105 hw) (w106 hw) (notFace_of_selects (args := #[]) (mvT hZ (w108 hw))) (w108 hw) (w107 hw) (w4 hw) (w109 hw) (by decide) (a := a) (rm_len l Z a0 hw [] a cd csz b kb z vs (5 : Int32) h0 n0 O0 E Fc Scs hcs hb8 Fv Vb hlen) e3 E 1 (by decide) (by decide) (by rw [hml]; rfl) (argsL := []) (rest := [(.int (1 : Int32))]) (lenOf pd_16 rfl) rfl rfl (Nat.le_of_eq rfl) (hb hby d5_24) (c2 := 0) (s2 := 0) rfl rfl (by decide) (by decide) fun v5 T5 Lc5 L5 X5 l5 hQ5 => ?_
    obtain ⟨rfl, N5q, e5⟩ := hQ5
    have N5 : Fr n0 L5 := by rw [l5]; exact Fr.app N3 N5q
    refine Go.of (fun _ kz => XS.icmpNo X5.here hx rfl (hb hby d5_27) rfl (tlt (by decide : (1 : Int32) < (5 : Int32))).2.1 kz) ?_
    refine Go.of (fun _ kz => XS.aloadN X5.here hx rfl (hb hby d5_30) rfl rfl (XS.iloadN X5.here hx rfl (hb hby d5_31) rfl kz)) ?_
    show Go _ _ _ _ _ T5 (mkF m 32 #[.val (.ref a), .val (.int (1 : Int32)), .unset] [(.int (1 : Int32)), (.ref a)])
    refine Go.callV X5 hx hZ hown (y := y_11) (z := y_11) (w51 hw) (w52 hw) (notFace_of_selects (args := #[]) (mvT hZ (w54 hw))) (w54 hw) (w53 hw) (w4 hw) (w55 hw) (by decide) (a := a) (rm_ch l Z a0 hw [] a (1 : Int32) cd b kb z vs (own_ch u1) csz vf h0 n0 O0 E Fc Fv Vb Scs hcs Sf hvf Sas Shi Slo (own_narc u1) hch1) e5 E 0 (by decide) (by decide) (by rw [hml]; rfl) (argsL := [(.int (1 : Int32))]) (rest := []) (lenOf pd_15 rfl) rfl rfl (Nat.le_of_eq rfl) (hb hby d5_32) (c2 := 0) (s2 := 0) rfl rfl (by decide) (by decide) fun v6 T6 Lc6 L6 X6 l6 hQ6 => ?_
    obtain ⟨rfl, N6q, e6⟩ := hQ6
    have N6 : Fr n0 L6 := by rw [l6]; exact Fr.app N5 N6q
    refine Go.of (fun _ kz => XS.istoreN X6.here hx rfl (hb hby d5_35) rfl (l' := #[.val (.ref a), .val (.int (1 : Int32)), .val (.int (own_ch u1))]) rfl (XS.iloadN X6.here hx rfl (hb hby d5_36) rfl kz)) ?_
    show Go _ _ _ _ _ T6 (mkF m 37 #[.val (.ref a), .val (.int (1 : Int32)), .val (.int (own_ch u1))] [(.int (own_ch u1))])
    refine Go.callS X6 hx hZ hown (y := y_21) (w73 hw) (w74 hw) (w30 hw) (w75 hw) (by decide) (rm_ial l Z a0 hw [] (own_ch u1) h0 n0 O0) e6 0 (by decide) (by decide) (by rw [hml]; rfl) (argsL := [(.int (own_ch u1))]) (rest := []) (lenOf pd_14 rfl) rfl rfl (Nat.le_of_eq rfl) (hb hby d5_37) (c2 := 0) (s2 := 0) rfl rfl (by decide) (by decide) fun v7 T7 Lc7 L7 X7 l7 hQ7 => ?_
    obtain ⟨rfl, N7q, e7⟩ := hQ7
    have N7 : Fr n0 L7 := by rw [l7]; exact Fr.app N6 N7q
    show Go _ _ _ _ _ T7 (mkF m 40 #[.val (.ref a), .val (.int (1 : Int32)), .val (.int (own_ch u1))] [(.int (own_let (own_ch u1)))])
    have hgo1 : ¬ own_ltr (own_ch u1) = (0 : Int32) → Go p e below (fun oW tW LW => FrameEnd s oW tW LW ({ frames := 5, cells := 0, slots := 0, locals := 66 } : Room).cells ({ frames := 5, cells := 0, slots := 0, locals := 66 } : Room).slots) (Q_rm_nm_5 Z a b kb cd z vs u0 u1 u2 u3 u4 r csz vf h0 n0) T7 (mkF m 63 #[.val (.ref a), .val (.int (1 : Int32)), .val (.int (own_ch u1))] []) := by
      intro hj1
      show Go _ _ _ _ _ T7 (mkF m 63 #[.val (.ref a), .val (.int (1 : Int32)), .val (.int (own_ch u1))] [])
      refine Go.of (fun _ kz => XS.iinc X7.here hx rfl (hb hby d5_63) rfl (l' := #[.val (.ref a), .val (.int (2 : Int32)), .val (.int (own_ch u1))]) rfl (XS.goto X7.here hx rfl (pc0 := 66) (pc' := 22) rfl (hb hby d5_66) (by decide) (by decide) (XS.iloadN X7.here hx rfl (hb hby d5_22) rfl (XS.aloadN X7.here hx rfl (hb hby d5_23) rfl rfl kz)))) ?_
      show Go _ _ _ _ _ T7 (mkF m 24 #[.val (.ref a), .val (.int (2 : Int32)), .val (.int (own_ch u1))] [(.ref a), (.int (2 : Int32))])
      refine Go.callV X7 hx hZ hown (y := y_5) (z := y_5) (w105 hw) (w106 hw) (notFace_of_selects (args := #[]) (mvT hZ (w108 hw))) (w108 hw) (w107 hw) (w4 hw) (w109 hw) (by decide) (a := a) (rm_len l Z a0 hw [] a cd csz b kb z vs (5 : Int32) h0 n0 O0 E Fc Scs hcs hb8 Fv Vb hlen) e7 E 1 (by decide) (by decide) (by rw [hml]; rfl) (argsL := []) (rest := [(.int (2 : Int32))]) (lenOf pd_16 rfl) rfl rfl (Nat.le_of_eq rfl) (hb hby d5_24) (c2 := 0) (s2 := 0) rfl rfl (by decide) (by decide) fun v8 T8 Lc8 L8 X8 l8 hQ8 => ?_
      obtain ⟨rfl, N8q, e8⟩ := hQ8
      have N8 : Fr n0 L8 := by rw [l8]; exact Fr.app N7 N8q
      refine Go.of (fun _ kz => XS.icmpNo X8.here hx rfl (hb hby d5_27) rfl (tlt (by decide : (2 : Int32) < (5 : Int32))).2.1 kz) ?_
      refine Go.of (fun _ kz => XS.aloadN X8.here hx rfl (hb hby d5_30) rfl rfl (XS.iloadN X8.here hx rfl (hb hby d5_31) rfl kz)) ?_
      show Go _ _ _ _ _ T8 (mkF m 32 #[.val (.ref a), .val (.int (2 : Int32)), .val (.int (own_ch u1))] [(.int (2 : Int32)), (.ref a)])
      refine Go.callV X8 hx hZ hown (y := y_11) (z := y_11) (w51 hw) (w52 hw) (notFace_of_selects (args := #[]) (mvT hZ (w54 hw))) (w54 hw) (w53 hw) (w4 hw) (w55 hw) (by decide) (a := a) (rm_ch l Z a0 hw [] a (2 : Int32) cd b kb z vs (own_ch u2) csz vf h0 n0 O0 E Fc Fv Vb Scs hcs Sf hvf Sas Shi Slo (own_narc u2) hch2) e8 E 0 (by decide) (by decide) (by rw [hml]; rfl) (argsL := [(.int (2 : Int32))]) (rest := []) (lenOf pd_15 rfl) rfl rfl (Nat.le_of_eq rfl) (hb hby d5_32) (c2 := 0) (s2 := 0) rfl rfl (by decide) (by decide) fun v9 T9 Lc9 L9 X9 l9 hQ9 => ?_
      obtain ⟨rfl, N9q, e9⟩ := hQ9
      have N9 : Fr n0 L9 := by rw [l9]; exact Fr.app N8 N9q
      refine Go.of (fun _ kz => XS.istoreN X9.here hx rfl (hb hby d5_35) rfl (l' := #[.val (.ref a), .val (.int (2 : Int32)), .val (.int (own_ch u2))]) rfl (XS.iloadN X9.here hx rfl (hb hby d5_36) rfl kz)) ?_
      show Go _ _ _ _ _ T9 (mkF m 37 #[.val (.ref a), .val (.int (2 : Int32)), .val (.int (own_ch u2))] [(.int (own_ch u2))])
      refine Go.callS X9 hx hZ hown (y := y_21) (w73 hw) (w74 hw) (w30 hw) (w75 hw) (by decide) (rm_ial l Z a0 hw [] (own_ch u2) h0 n0 O0) e9 0 (by decide) (by decide) (by rw [hml]; rfl) (argsL := [(.int (own_ch u2))]) (rest := []) (lenOf pd_14 rfl) rfl rfl (Nat.le_of_eq rfl) (hb hby d5_37) (c2 := 0) (s2 := 0) rfl rfl (by decide) (by decide) fun v10 T10 Lc10 L10 X10 l10 hQ10 => ?_
      obtain ⟨rfl, N10q, e10⟩ := hQ10
      have N10 : Fr n0 L10 := by rw [l10]; exact Fr.app N9 N10q
      show Go _ _ _ _ _ T10 (mkF m 40 #[.val (.ref a), .val (.int (2 : Int32)), .val (.int (own_ch u2))] [(.int (own_let (own_ch u2)))])
      have hgo2 : ¬ own_ltr (own_ch u2) = (0 : Int32) → Go p e below (fun oW tW LW => FrameEnd s oW tW LW ({ frames := 5, cells := 0, slots := 0, locals := 66 } : Room).cells ({ frames := 5, cells := 0, slots := 0, locals := 66 } : Room).slots) (Q_rm_nm_5 Z a b kb cd z vs u0 u1 u2 u3 u4 r csz vf h0 n0) T10 (mkF m 63 #[.val (.ref a), .val (.int (2 : Int32)), .val (.int (own_ch u2))] []) := by
        intro hj2
        show Go _ _ _ _ _ T10 (mkF m 63 #[.val (.ref a), .val (.int (2 : Int32)), .val (.int (own_ch u2))] [])
        refine Go.of (fun _ kz => XS.iinc X10.here hx rfl (hb hby d5_63) rfl (l' := #[.val (.ref a), .val (.int (3 : Int32)), .val (.int (own_ch u2))]) rfl (XS.goto X10.here hx rfl (pc0 := 66) (pc' := 22) rfl (hb hby d5_66) (by decide) (by decide) (XS.iloadN X10.here hx rfl (hb hby d5_22) rfl (XS.aloadN X10.here hx rfl (hb hby d5_23) rfl rfl kz)))) ?_
        show Go _ _ _ _ _ T10 (mkF m 24 #[.val (.ref a), .val (.int (3 : Int32)), .val (.int (own_ch u2))] [(.ref a), (.int (3 : Int32))])
        refine Go.callV X10 hx hZ hown (y := y_5) (z := y_5) (w105 hw) (w106 hw) (notFace_of_selects (args := #[]) (mvT hZ (w108 hw))) (w108 hw) (w107 hw) (w4 hw) (w109 hw) (by decide) (a := a) (rm_len l Z a0 hw [] a cd csz b kb z vs (5 : Int32) h0 n0 O0 E Fc Scs hcs hb8 Fv Vb hlen) e10 E 1 (by decide) (by decide) (by rw [hml]; rfl) (argsL := []) (rest := [(.int (3 : Int32))]) (lenOf pd_16 rfl) rfl rfl (Nat.le_of_eq rfl) (hb hby d5_24) (c2 := 0) (s2 := 0) rfl rfl (by decide) (by decide) fun v11 T11 Lc11 L11 X11 l11 hQ11 => ?_
        obtain ⟨rfl, N11q, e11⟩ := hQ11
        have N11 : Fr n0 L11 := by rw [l11]; exact Fr.app N10 N11q
        refine Go.of (fun _ kz => XS.icmpNo X11.here hx rfl (hb hby d5_27) rfl (tlt (by decide : (3 : Int32) < (5 : Int32))).2.1 kz) ?_
        refine Go.of (fun _ kz => XS.aloadN X11.here hx rfl (hb hby d5_30) rfl rfl (XS.iloadN X11.here hx rfl (hb hby d5_31) rfl kz)) ?_
        show Go _ _ _ _ _ T11 (mkF m 32 #[.val (.ref a), .val (.int (3 : Int32)), .val (.int (own_ch u2))] [(.int (3 : Int32)), (.ref a)])
        refine Go.callV X11 hx hZ hown (y := y_11) (z := y_11) (w51 hw) (w52 hw) (notFace_of_selects (args := #[]) (mvT hZ (w54 hw))) (w54 hw) (w53 hw) (w4 hw) (w55 hw) (by decide) (a := a) (rm_ch l Z a0 hw [] a (3 : Int32) cd b kb z vs (own_ch u3) csz vf h0 n0 O0 E Fc Fv Vb Scs hcs Sf hvf Sas Shi Slo (own_narc u3) hch3) e11 E 0 (by decide) (by decide) (by rw [hml]; rfl) (argsL := [(.int (3 : Int32))]) (rest := []) (lenOf pd_15 rfl) rfl rfl (Nat.le_of_eq rfl) (hb hby d5_32) (c2 := 0) (s2 := 0) rfl rfl (by decide) (by decide) fun v12 T12 Lc12 L12 X12 l12 hQ12 => ?_
        obtain ⟨rfl, N12q, e12⟩ := hQ12
        have N12 : Fr n0 L12 := by rw [l12]; exact Fr.app N11 N12q
        refine Go.of (fun _ kz => XS.istoreN X12.here hx rfl (hb hby d5_35) rfl (l' := #[.val (.ref a), .val (.int (3 : Int32)), .val (.int (own_ch u3))]) rfl (XS.iloadN X12.here hx rfl (hb hby d5_36) rfl kz)) ?_
        show Go _ _ _ _ _ T12 (mkF m 37 #[.val (.ref a), .val (.int (3 : Int32)), .val (.int (own_ch u3))] [(.int (own_ch u3))])
        refine Go.callS X12 hx hZ hown (y := y_21) (w73 hw) (w74 hw) (w30 hw) (w75 hw) (by decide) (rm_ial l Z a0 hw [] (own_ch u3) h0 n0 O0) e12 0 (by decide) (by decide) (by rw [hml]; rfl) (argsL := [(.int (own_ch u3))]) (rest := []) (lenOf pd_14 rfl) rfl rfl (Nat.le_of_eq rfl) (hb hby d5_37) (c2 := 0) (s2 := 0) rfl rfl (by decide) (by decide) fun v13 T13 Lc13 L13 X13 l13 hQ13 => ?_
        obtain ⟨rfl, N13q, e13⟩ := hQ13
        have N13 : Fr n0 L13 := by rw [l13]; exact Fr.app N12 N13q
        show Go _ _ _ _ _ T13 (mkF m 40 #[.val (.ref a), .val (.int (3 : Int32)), .val (.int (own_ch u3))] [(.int (own_let (own_ch u3)))])
        have hgo3 : ¬ own_ltr (own_ch u3) = (0 : Int32) → Go p e below (fun oW tW LW => FrameEnd s oW tW LW ({ frames := 5, cells := 0, slots := 0, locals := 66 } : Room).cells ({ frames := 5, cells := 0, slots := 0, locals := 66 } : Room).slots) (Q_rm_nm_5 Z a b kb cd z vs u0 u1 u2 u3 u4 r csz vf h0 n0) T13 (mkF m 63 #[.val (.ref a), .val (.int (3 : Int32)), .val (.int (own_ch u3))] []) := by
          intro hj3
          show Go _ _ _ _ _ T13 (mkF m 63 #[.val (.ref a), .val (.int (3 : Int32)), .val (.int (own_ch u3))] [])
          refine Go.of (fun _ kz => XS.iinc X13.here hx rfl (hb hby d5_63) rfl (l' := #[.val (.ref a), .val (.int (4 : Int32)), .val (.int (own_ch u3))]) rfl (XS.goto X13.here hx rfl (pc0 := 66) (pc' := 22) rfl (hb hby d5_66) (by decide) (by decide) (XS.iloadN X13.here hx rfl (hb hby d5_22) rfl (XS.aloadN X13.here hx rfl (hb hby d5_23) rfl rfl kz)))) ?_
          show Go _ _ _ _ _ T13 (mkF m 24 #[.val (.ref a), .val (.int (4 : Int32)), .val (.int (own_ch u3))] [(.ref a), (.int (4 : Int32))])
          refine Go.callV X13 hx hZ hown (y := y_5) (z := y_5) (w105 hw) (w106 hw) (notFace_of_selects (args := #[]) (mvT hZ (w108 hw))) (w108 hw) (w107 hw) (w4 hw) (w109 hw) (by decide) (a := a) (rm_len l Z a0 hw [] a cd csz b kb z vs (5 : Int32) h0 n0 O0 E Fc Scs hcs hb8 Fv Vb hlen) e13 E 1 (by decide) (by decide) (by rw [hml]; rfl) (argsL := []) (rest := [(.int (4 : Int32))]) (lenOf pd_16 rfl) rfl rfl (Nat.le_of_eq rfl) (hb hby d5_24) (c2 := 0) (s2 := 0) rfl rfl (by decide) (by decide) fun v14 T14 Lc14 L14 X14 l14 hQ14 => ?_
          obtain ⟨rfl, N14q, e14⟩ := hQ14
          have N14 : Fr n0 L14 := by rw [l14]; exact Fr.app N13 N14q
          refine Go.of (fun _ kz => XS.icmpNo X14.here hx rfl (hb hby d5_27) rfl (tlt (by decide : (4 : Int32) < (5 : Int32))).2.1 kz) ?_
          refine Go.of (fun _ kz => XS.aloadN X14.here hx rfl (hb hby d5_30) rfl rfl (XS.iloadN X14.here hx rfl (hb hby d5_31) rfl kz)) ?_
          show Go _ _ _ _ _ T14 (mkF m 32 #[.val (.ref a), .val (.int (4 : Int32)), .val (.int (own_ch u3))] [(.int (4 : Int32)), (.ref a)])
          refine Go.callV X14 hx hZ hown (y := y_11) (z := y_11) (w51 hw) (w52 hw) (notFace_of_selects (args := #[]) (mvT hZ (w54 hw))) (w54 hw) (w53 hw) (w4 hw) (w55 hw) (by decide) (a := a) (rm_ch l Z a0 hw [] a (4 : Int32) cd b kb z vs (own_ch u4) csz vf h0 n0 O0 E Fc Fv Vb Scs hcs Sf hvf Sas Shi Slo (own_narc u4) hch4) e14 E 0 (by decide) (by decide) (by rw [hml]; rfl) (argsL := [(.int (4 : Int32))]) (rest := []) (lenOf pd_15 rfl) rfl rfl (Nat.le_of_eq rfl) (hb hby d5_32) (c2 := 0) (s2 := 0) rfl rfl (by decide) (by decide) fun v15 T15 Lc15 L15 X15 l15 hQ15 => ?_
          obtain ⟨rfl, N15q, e15⟩ := hQ15
          have N15 : Fr n0 L15 := by rw [l15]; exact Fr.app N14 N15q
          refine Go.of (fun _ kz => XS.istoreN X15.here hx rfl (hb hby d5_35) rfl (l' := #[.val (.ref a), .val (.int (4 : Int32)), .val (.int (own_ch u4))]) rfl (XS.iloadN X15.here hx rfl (hb hby d5_36) rfl kz)) ?_
          show Go _ _ _ _ _ T15 (mkF m 37 #[.val (.ref a), .val (.int (4 : Int32)), .val (.int (own_ch u4))] [(.int (own_ch u4))])
          refine Go.callS X15 hx hZ hown (y := y_21) (w73 hw) (w74 hw) (w30 hw) (w75 hw) (by decide) (rm_ial l Z a0 hw [] (own_ch u4) h0 n0 O0) e15 0 (by decide) (by decide) (by rw [hml]; rfl) (argsL := [(.int (own_ch u4))]) (rest := []) (lenOf pd_14 rfl) rfl rfl (Nat.le_of_eq rfl) (hb hby d5_37) (c2 := 0) (s2 := 0) rfl rfl (by decide) (by decide) fun v16 T16 Lc16 L16 X16 l16 hQ16 => ?_
          obtain ⟨rfl, N16q, e16⟩ := hQ16
          have N16 : Fr n0 L16 := by rw [l16]; exact Fr.app N15 N16q
          show Go _ _ _ _ _ T16 (mkF m 40 #[.val (.ref a), .val (.int (4 : Int32)), .val (.int (own_ch u4))] [(.int (own_let (own_ch u4)))])
          have hgo4 : ¬ own_ltr (own_ch u4) = (0 : Int32) → Go p e below (fun oW tW LW => FrameEnd s oW tW LW ({ frames := 5, cells := 0, slots := 0, locals := 66 } : Room).cells ({ frames := 5, cells := 0, slots := 0, locals := 66 } : Room).slots) (Q_rm_nm_5 Z a b kb cd z vs u0 u1 u2 u3 u4 r csz vf h0 n0) T16 (mkF m 63 #[.val (.ref a), .val (.int (4 : Int32)), .val (.int (own_ch u4))] []) := by
            intro hj4
            show Go _ _ _ _ _ T16 (mkF m 63 #[.val (.ref a), .val (.int (4 : Int32)), .val (.int (own_ch u4))] [])
            refine Go.of (fun _ kz => XS.iinc X16.here hx rfl (hb hby d5_63) rfl (l' := #[.val (.ref a), .val (.int (5 : Int32)), .val (.int (own_ch u4))]) rfl (XS.goto X16.here hx rfl (pc0 := 66) (pc' := 22) rfl (hb hby d5_66) (by decide) (by decide) (XS.iloadN X16.here hx rfl (hb hby d5_22) rfl (XS.aloadN X16.here hx rfl (hb hby d5_23) rfl rfl kz)))) ?_
            show Go _ _ _ _ _ T16 (mkF m 24 #[.val (.ref a), .val (.int (5 : Int32)), .val (.int (own_ch u4))] [(.ref a), (.int (5 : Int32))])
            refine Go.callV X16 hx hZ hown (y := y_5) (z := y_5) (w105 hw) (w106 hw) (notFace_of_selects (args := #[]) (mvT hZ (w108 hw))) (w108 hw) (w107 hw) (w4 hw) (w109 hw) (by decide) (a := a) (rm_len l Z a0 hw [] a cd csz b kb z vs (5 : Int32) h0 n0 O0 E Fc Scs hcs hb8 Fv Vb hlen) e16 E 1 (by decide) (by decide) (by rw [hml]; rfl) (argsL := []) (rest := [(.int (5 : Int32))]) (lenOf pd_16 rfl) rfl rfl (Nat.le_of_eq rfl) (hb hby d5_24) (c2 := 0) (s2 := 0) rfl rfl (by decide) (by decide) fun v17 T17 Lc17 L17 X17 l17 hQ17 => ?_
            obtain ⟨rfl, N17q, e17⟩ := hQ17
            have N17 : Fr n0 L17 := by rw [l17]; exact Fr.app N16 N17q
            refine Go.of (fun _ kz => XS.icmpYes X17.here hx rfl (pc0 := 27) (pc' := 69) rfl (hb hby d5_27) rfl (flt (by decide : ¬ (5 : Int32) < (5 : Int32))).2.1 (by decide) (by decide) kz) ?_
            refine Go.of (fun _ kz => XS.iconst X17.here hx rfl (hb hby d5_69) kz) ?_
            refine Go.ret X17 (v := some (.int (1 : Int32))) (fun h => by rw [Bd.returns] at h; cases h) Bd.notSynchronized (fun fs hr => retN X17 hx (t := .boolean) Bd.returns (by simp) (hb hby d5_70) hr) (by decide) (by decide) ?_
            show Q_rm_nm_5 Z _ _ _ _ _ _ _ _ _ _ _ _ _ _ h0 n0 _ T17.heap _
            rw [e17]
            exact ⟨by rw [← hr]; simp [own_nm, own_all, hc15_4, hj1, hj2, hj3, hj4], N17, rfl⟩
          by_cases hc40_18 : (own_let (own_ch u4)) = (0 : Int32)
          · refine Go.of (fun _ kz => XS.ifNo X16.here hx rfl (hb hby d5_40) rfl ((if0 _ _).trans (teq hc40_18).2) kz) ?_
            refine Go.of (fun _ kz => XS.iloadN X16.here hx rfl (hb hby d5_43) rfl (XS.bipush X16.here hx rfl (hb hby d5_44) kz)) ?_
            by_cases hc46_19 : (own_ch u4) < (48 : Int32)
            · refine Go.of (fun _ kz => XS.icmpYes X16.here hx rfl (pc0 := 46) (pc' := 55) rfl (hb hby d5_46) rfl (tlt hc46_19).1 (by decide) (by decide) kz) ?_
              refine Go.of (fun _ kz => XS.iloadN X16.here hx rfl (hb hby d5_55) rfl (XS.bipush X16.here hx rfl (hb hby d5_56) kz)) ?_
              by_cases hc58_20 : (own_ch u4) = (95 : Int32)
              · refine Go.of (fun _ kz => XS.icmpYes X16.here hx rfl (pc0 := 58) (pc' := 63) rfl (hb hby d5_58) rfl (teq hc58_20).1 (by decide) (by decide) kz) ?_
                show Go _ _ _ _ _ T16 (mkF m 63 #[.val (.ref a), .val (.int (4 : Int32)), .val (.int (own_ch u4))] [])
                exact hgo4 (by simp [own_ltr, hc40_18, hc46_19, hc58_20])
              · refine Go.of (fun _ kz => XS.icmpNo X16.here hx rfl (hb hby d5_58) rfl (feq hc58_20).1 kz) ?_
                show Go _ _ _ _ _ T16 (mkF m 61 #[.val (.ref a), .val (.int (4 : Int32)), .val (.int (own_ch u4))] [])
                have hj4 : own_ltr (own_ch u4) = (0 : Int32) := by simp [own_ltr, hc40_18, hc46_19, hc58_20]
                refine Go.of (fun _ kz => XS.iconst X16.here hx rfl (hb hby d5_61) kz) ?_
                refine Go.ret X16 (v := some (.int (0 : Int32))) (fun h => by rw [Bd.returns] at h; cases h) Bd.notSynchronized (fun fs hr => retN X16 hx (t := .boolean) Bd.returns (by simp) (hb hby d5_62) hr) (by decide) (by decide) ?_
                show Q_rm_nm_5 Z _ _ _ _ _ _ _ _ _ _ _ _ _ _ h0 n0 _ T16.heap _
                rw [e16]
                exact ⟨by rw [← hr]; simp [own_nm, own_all, hc15_4, hj1, hj2, hj3, hj4], N16, rfl⟩
            · refine Go.of (fun _ kz => XS.icmpNo X16.here hx rfl (hb hby d5_46) rfl (flt hc46_19).1 kz) ?_
              refine Go.of (fun _ kz => XS.iloadN X16.here hx rfl (hb hby d5_49) rfl (XS.bipush X16.here hx rfl (hb hby d5_50) kz)) ?_
              by_cases hc52_21 : (57 : Int32) < (own_ch u4)
              · refine Go.of (fun _ kz => XS.icmpNo X16.here hx rfl (hb hby d5_52) rfl (tlt hc52_21).2.2.2 kz) ?_
                show Go _ _ _ _ _ T16 (mkF m 55 #[.val (.ref a), .val (.int (4 : Int32)), .val (.int (own_ch u4))] [])
                refine Go.of (fun _ kz => XS.iloadN X16.here hx rfl (hb hby d5_55) rfl (XS.bipush X16.here hx rfl (hb hby d5_56) kz)) ?_
                by_cases hc58_22 : (own_ch u4) = (95 : Int32)
                · refine Go.of (fun _ kz => XS.icmpYes X16.here hx rfl (pc0 := 58) (pc' := 63) rfl (hb hby d5_58) rfl (teq hc58_22).1 (by decide) (by decide) kz) ?_
                  show Go _ _ _ _ _ T16 (mkF m 63 #[.val (.ref a), .val (.int (4 : Int32)), .val (.int (own_ch u4))] [])
                  exact hgo4 (by simp [own_ltr, hc40_18, hc46_19, hc52_21, hc58_22])
                · refine Go.of (fun _ kz => XS.icmpNo X16.here hx rfl (hb hby d5_58) rfl (feq hc58_22).1 kz) ?_
                  show Go _ _ _ _ _ T16 (mkF m 61 #[.val (.ref a), .val (.int (4 : Int32)), .val (.int (own_ch u4))] [])
                  have hj4 : own_ltr (own_ch u4) = (0 : Int32) := by simp [own_ltr, hc40_18, hc46_19, hc52_21, hc58_22]
                  refine Go.of (fun _ kz => XS.iconst X16.here hx rfl (hb hby d5_61) kz) ?_
                  refine Go.ret X16 (v := some (.int (0 : Int32))) (fun h => by rw [Bd.returns] at h; cases h) Bd.notSynchronized (fun fs hr => retN X16 hx (t := .boolean) Bd.returns (by simp) (hb hby d5_62) hr) (by decide) (by decide) ?_
                  show Q_rm_nm_5 Z _ _ _ _ _ _ _ _ _ _ _ _ _ _ h0 n0 _ T16.heap _
                  rw [e16]
                  exact ⟨by rw [← hr]; simp [own_nm, own_all, hc15_4, hj1, hj2, hj3, hj4], N16, rfl⟩
              · refine Go.of (fun _ kz => XS.icmpYes X16.here hx rfl (pc0 := 52) (pc' := 63) rfl (hb hby d5_52) rfl (flt hc52_21).2.2.2 (by decide) (by decide) kz) ?_
                show Go _ _ _ _ _ T16 (mkF m 63 #[.val (.ref a), .val (.int (4 : Int32)), .val (.int (own_ch u4))] [])
                exact hgo4 (by simp [own_ltr, hc40_18, hc46_19, hc52_21])
          · refine Go.of (fun _ kz => XS.ifYes X16.here hx rfl (pc0 := 40) (pc' := 63) rfl (hb hby d5_40) rfl ((if0 _ _).trans (feq hc40_18).2) (by decide) (by decide) kz) ?_
            show Go _ _ _ _ _ T16 (mkF m 63 #[.val (.ref a), .val (.int (4 : Int32)), .val (.int (own_ch u4))] [])
            exact hgo4 (by simp [own_ltr, hc40_18])
        by_cases hc40_23 : (own_let (own_ch u3)) = (0 : Int32)
        · refine Go.of (fun _ kz => XS.ifNo X13.here hx rfl (hb hby d5_40) rfl ((if0 _ _).trans (teq hc40_23).2) kz) ?_
          refine Go.of (fun _ kz => XS.iloadN X13.here hx rfl (hb hby d5_43) rfl (XS.bipush X13.here hx rfl (hb hby d5_44) kz)) ?_
          by_cases hc46_24 : (own_ch u3) < (48 : Int32)
          · refine Go.of (fun _ kz => XS.icmpYes X13.here hx rfl (pc0 := 46) (pc' := 55) rfl (hb hby d5_46) rfl (tlt hc46_24).1 (by decide) (by decide) kz) ?_
            refine Go.of (fun _ kz => XS.iloadN X13.here hx rfl (hb hby d5_55) rfl (XS.bipush X13.here hx rfl (hb hby d5_56) kz)) ?_
            by_cases hc58_25 : (own_ch u3) = (95 : Int32)
            · refine Go.of (fun _ kz => XS.icmpYes X13.here hx rfl (pc0 := 58) (pc' := 63) rfl (hb hby d5_58) rfl (teq hc58_25).1 (by decide) (by decide) kz) ?_
              show Go _ _ _ _ _ T13 (mkF m 63 #[.val (.ref a), .val (.int (3 : Int32)), .val (.int (own_ch u3))] [])
              exact hgo3 (by simp [own_ltr, hc40_23, hc46_24, hc58_25])
            · refine Go.of (fun _ kz => XS.icmpNo X13.here hx rfl (hb hby d5_58) rfl (feq hc58_25).1 kz) ?_
              show Go _ _ _ _ _ T13 (mkF m 61 #[.val (.ref a), .val (.int (3 : Int32)), .val (.int (own_ch u3))] [])
              have hj3 : own_ltr (own_ch u3) = (0 : Int32) := by simp [own_ltr, hc40_23, hc46_24, hc58_25]
              refine Go.of (fun _ kz => XS.iconst X13.here hx rfl (hb hby d5_61) kz) ?_
              refine Go.ret X13 (v := some (.int (0 : Int32))) (fun h => by rw [Bd.returns] at h; cases h) Bd.notSynchronized (fun fs hr => retN X13 hx (t := .boolean) Bd.returns (by simp) (hb hby d5_62) hr) (by decide) (by decide) ?_
              show Q_rm_nm_5 Z _ _ _ _ _ _ _ _ _ _ _ _ _ _ h0 n0 _ T13.heap _
              rw [e13]
              exact ⟨by rw [← hr]; simp [own_nm, own_all, hc15_4, hj1, hj2, hj3], N13, rfl⟩
          · refine Go.of (fun _ kz => XS.icmpNo X13.here hx rfl (hb hby d5_46) rfl (flt hc46_24).1 kz) ?_
            refine Go.of (fun _ kz => XS.iloadN X13.here hx rfl (hb hby d5_49) rfl (XS.bipush X13.here hx rfl (hb hby d5_50) kz)) ?_
            by_cases hc52_26 : (57 : Int32) < (own_ch u3)
            · refine Go.of (fun _ kz => XS.icmpNo X13.here hx rfl (hb hby d5_52) rfl (tlt hc52_26).2.2.2 kz) ?_
              show Go _ _ _ _ _ T13 (mkF m 55 #[.val (.ref a), .val (.int (3 : Int32)), .val (.int (own_ch u3))] [])
              refine Go.of (fun _ kz => XS.iloadN X13.here hx rfl (hb hby d5_55) rfl (XS.bipush X13.here hx rfl (hb hby d5_56) kz)) ?_
              by_cases hc58_27 : (own_ch u3) = (95 : Int32)
              · refine Go.of (fun _ kz => XS.icmpYes X13.here hx rfl (pc0 := 58) (pc' := 63) rfl (hb hby d5_58) rfl (teq hc58_27).1 (by decide) (by decide) kz) ?_
                show Go _ _ _ _ _ T13 (mkF m 63 #[.val (.ref a), .val (.int (3 : Int32)), .val (.int (own_ch u3))] [])
                exact hgo3 (by simp [own_ltr, hc40_23, hc46_24, hc52_26, hc58_27])
              · refine Go.of (fun _ kz => XS.icmpNo X13.here hx rfl (hb hby d5_58) rfl (feq hc58_27).1 kz) ?_
                show Go _ _ _ _ _ T13 (mkF m 61 #[.val (.ref a), .val (.int (3 : Int32)), .val (.int (own_ch u3))] [])
                have hj3 : own_ltr (own_ch u3) = (0 : Int32) := by simp [own_ltr, hc40_23, hc46_24, hc52_26, hc58_27]
                refine Go.of (fun _ kz => XS.iconst X13.here hx rfl (hb hby d5_61) kz) ?_
                refine Go.ret X13 (v := some (.int (0 : Int32))) (fun h => by rw [Bd.returns] at h; cases h) Bd.notSynchronized (fun fs hr => retN X13 hx (t := .boolean) Bd.returns (by simp) (hb hby d5_62) hr) (by decide) (by decide) ?_
                show Q_rm_nm_5 Z _ _ _ _ _ _ _ _ _ _ _ _ _ _ h0 n0 _ T13.heap _
                rw [e13]
                exact ⟨by rw [← hr]; simp [own_nm, own_all, hc15_4, hj1, hj2, hj3], N13, rfl⟩
            · refine Go.of (fun _ kz => XS.icmpYes X13.here hx rfl (pc0 := 52) (pc' := 63) rfl (hb hby d5_52) rfl (flt hc52_26).2.2.2 (by decide) (by decide) kz) ?_
              show Go _ _ _ _ _ T13 (mkF m 63 #[.val (.ref a), .val (.int (3 : Int32)), .val (.int (own_ch u3))] [])
              exact hgo3 (by simp [own_ltr, hc40_23, hc46_24, hc52_26])
        · refine Go.of (fun _ kz => XS.ifYes X13.here hx rfl (pc0 := 40) (pc' := 63) rfl (hb hby d5_40) rfl ((if0 _ _).trans (feq hc40_23).2) (by decide) (by decide) kz) ?_
          show Go _ _ _ _ _ T13 (mkF m 63 #[.val (.ref a), .val (.int (3 : Int32)), .val (.int (own_ch u3))] [])
          exact hgo3 (by simp [own_ltr, hc40_23])
      by_cases hc40_28 : (own_let (own_ch u2)) = (0 : Int32)
      · refine Go.of (fun _ kz => XS.ifNo X10.here hx rfl (hb hby d5_40) rfl ((if0 _ _).trans (teq hc40_28).2) kz) ?_
        refine Go.of (fun _ kz => XS.iloadN X10.here hx rfl (hb hby d5_43) rfl (XS.bipush X10.here hx rfl (hb hby d5_44) kz)) ?_
        by_cases hc46_29 : (own_ch u2) < (48 : Int32)
        · refine Go.of (fun _ kz => XS.icmpYes X10.here hx rfl (pc0 := 46) (pc' := 55) rfl (hb hby d5_46) rfl (tlt hc46_29).1 (by decide) (by decide) kz) ?_
          refine Go.of (fun _ kz => XS.iloadN X10.here hx rfl (hb hby d5_55) rfl (XS.bipush X10.here hx rfl (hb hby d5_56) kz)) ?_
          by_cases hc58_30 : (own_ch u2) = (95 : Int32)
          · refine Go.of (fun _ kz => XS.icmpYes X10.here hx rfl (pc0 := 58) (pc' := 63) rfl (hb hby d5_58) rfl (teq hc58_30).1 (by decide) (by decide) kz) ?_
            show Go _ _ _ _ _ T10 (mkF m 63 #[.val (.ref a), .val (.int (2 : Int32)), .val (.int (own_ch u2))] [])
            exact hgo2 (by simp [own_ltr, hc40_28, hc46_29, hc58_30])
          · refine Go.of (fun _ kz => XS.icmpNo X10.here hx rfl (hb hby d5_58) rfl (feq hc58_30).1 kz) ?_
            show Go _ _ _ _ _ T10 (mkF m 61 #[.val (.ref a), .val (.int (2 : Int32)), .val (.int (own_ch u2))] [])
            have hj2 : own_ltr (own_ch u2) = (0 : Int32) := by simp [own_ltr, hc40_28, hc46_29, hc58_30]
            refine Go.of (fun _ kz => XS.iconst X10.here hx rfl (hb hby d5_61) kz) ?_
            refine Go.ret X10 (v := some (.int (0 : Int32))) (fun h => by rw [Bd.returns] at h; cases h) Bd.notSynchronized (fun fs hr => retN X10 hx (t := .boolean) Bd.returns (by simp) (hb hby d5_62) hr) (by decide) (by decide) ?_
            show Q_rm_nm_5 Z _ _ _ _ _ _ _ _ _ _ _ _ _ _ h0 n0 _ T10.heap _
            rw [e10]
            exact ⟨by rw [← hr]; simp [own_nm, own_all, hc15_4, hj1, hj2], N10, rfl⟩
        · refine Go.of (fun _ kz => XS.icmpNo X10.here hx rfl (hb hby d5_46) rfl (flt hc46_29).1 kz) ?_
          refine Go.of (fun _ kz => XS.iloadN X10.here hx rfl (hb hby d5_49) rfl (XS.bipush X10.here hx rfl (hb hby d5_50) kz)) ?_
          by_cases hc52_31 : (57 : Int32) < (own_ch u2)
          · refine Go.of (fun _ kz => XS.icmpNo X10.here hx rfl (hb hby d5_52) rfl (tlt hc52_31).2.2.2 kz) ?_
            show Go _ _ _ _ _ T10 (mkF m 55 #[.val (.ref a), .val (.int (2 : Int32)), .val (.int (own_ch u2))] [])
            refine Go.of (fun _ kz => XS.iloadN X10.here hx rfl (hb hby d5_55) rfl (XS.bipush X10.here hx rfl (hb hby d5_56) kz)) ?_
            by_cases hc58_32 : (own_ch u2) = (95 : Int32)
            · refine Go.of (fun _ kz => XS.icmpYes X10.here hx rfl (pc0 := 58) (pc' := 63) rfl (hb hby d5_58) rfl (teq hc58_32).1 (by decide) (by decide) kz) ?_
              show Go _ _ _ _ _ T10 (mkF m 63 #[.val (.ref a), .val (.int (2 : Int32)), .val (.int (own_ch u2))] [])
              exact hgo2 (by simp [own_ltr, hc40_28, hc46_29, hc52_31, hc58_32])
            · refine Go.of (fun _ kz => XS.icmpNo X10.here hx rfl (hb hby d5_58) rfl (feq hc58_32).1 kz) ?_
              show Go _ _ _ _ _ T10 (mkF m 61 #[.val (.ref a), .val (.int (2 : Int32)), .val (.int (own_ch u2))] [])
              have hj2 : own_ltr (own_ch u2) = (0 : Int32) := by simp [own_ltr, hc40_28, hc46_29, hc52_31, hc58_32]
              refine Go.of (fun _ kz => XS.iconst X10.here hx rfl (hb hby d5_61) kz) ?_
              refine Go.ret X10 (v := some (.int (0 : Int32))) (fun h => by rw [Bd.returns] at h; cases h) Bd.notSynchronized (fun fs hr => retN X10 hx (t := .boolean) Bd.returns (by simp) (hb hby d5_62) hr) (by decide) (by decide) ?_
              show Q_rm_nm_5 Z _ _ _ _ _ _ _ _ _ _ _ _ _ _ h0 n0 _ T10.heap _
              rw [e10]
              exact ⟨by rw [← hr]; simp [own_nm, own_all, hc15_4, hj1, hj2], N10, rfl⟩
          · refine Go.of (fun _ kz => XS.icmpYes X10.here hx rfl (pc0 := 52) (pc' := 63) rfl (hb hby d5_52) rfl (flt hc52_31).2.2.2 (by decide) (by decide) kz) ?_
            show Go _ _ _ _ _ T10 (mkF m 63 #[.val (.ref a), .val (.int (2 : Int32)), .val (.int (own_ch u2))] [])
            exact hgo2 (by simp [own_ltr, hc40_28, hc46_29, hc52_31])
      · refine Go.of (fun _ kz => XS.ifYes X10.here hx rfl (pc0 := 40) (pc' := 63) rfl (hb hby d5_40) rfl ((if0 _ _).trans (feq hc40_28).2) (by decide) (by decide) kz) ?_
        show Go _ _ _ _ _ T10 (mkF m 63 #[.val (.ref a), .val (.int (2 : Int32)), .val (.int (own_ch u2))] [])
        exact hgo2 (by simp [own_ltr, hc40_28])
    by_cases hc40_33 : (own_let (own_ch u1)) = (0 : Int32)
    · refine Go.of (fun _ kz => XS.ifNo X7.here hx rfl (hb hby d5_40) rfl ((if0 _ _).trans (teq hc40_33).2) kz) ?_
      refine Go.of (fun _ kz => XS.iloadN X7.here hx rfl (hb hby d5_43) rfl (XS.bipush X7.here hx rfl (hb hby d5_44) kz)) ?_
      by_cases hc46_34 : (own_ch u1) < (48 : Int32)
      · refine Go.of (fun _ kz => XS.icmpYes X7.here hx rfl (pc0 := 46) (pc' := 55) rfl (hb hby d5_46) rfl (tlt hc46_34).1 (by decide) (by decide) kz) ?_
        refine Go.of (fun _ kz => XS.iloadN X7.here hx rfl (hb hby d5_55) rfl (XS.bipush X7.here hx rfl (hb hby d5_56) kz)) ?_
        by_cases hc58_35 : (own_ch u1) = (95 : Int32)
        · refine Go.of (fun _ kz => XS.icmpYes X7.here hx rfl (pc0 := 58) (pc' := 63) rfl (hb hby d5_58) rfl (teq hc58_35).1 (by decide) (by decide) kz) ?_
          show Go _ _ _ _ _ T7 (mkF m 63 #[.val (.ref a), .val (.int (1 : Int32)), .val (.int (own_ch u1))] [])
          exact hgo1 (by simp [own_ltr, hc40_33, hc46_34, hc58_35])
        · refine Go.of (fun _ kz => XS.icmpNo X7.here hx rfl (hb hby d5_58) rfl (feq hc58_35).1 kz) ?_
          show Go _ _ _ _ _ T7 (mkF m 61 #[.val (.ref a), .val (.int (1 : Int32)), .val (.int (own_ch u1))] [])
          have hj1 : own_ltr (own_ch u1) = (0 : Int32) := by simp [own_ltr, hc40_33, hc46_34, hc58_35]
          refine Go.of (fun _ kz => XS.iconst X7.here hx rfl (hb hby d5_61) kz) ?_
          refine Go.ret X7 (v := some (.int (0 : Int32))) (fun h => by rw [Bd.returns] at h; cases h) Bd.notSynchronized (fun fs hr => retN X7 hx (t := .boolean) Bd.returns (by simp) (hb hby d5_62) hr) (by decide) (by decide) ?_
          show Q_rm_nm_5 Z _ _ _ _ _ _ _ _ _ _ _ _ _ _ h0 n0 _ T7.heap _
          rw [e7]
          exact ⟨by rw [← hr]; simp [own_nm, own_all, hc15_4, hj1], N7, rfl⟩
      · refine Go.of (fun _ kz => XS.icmpNo X7.here hx rfl (hb hby d5_46) rfl (flt hc46_34).1 kz) ?_
        refine Go.of (fun _ kz => XS.iloadN X7.here hx rfl (hb hby d5_49) rfl (XS.bipush X7.here hx rfl (hb hby d5_50) kz)) ?_
        by_cases hc52_36 : (57 : Int32) < (own_ch u1)
        · refine Go.of (fun _ kz => XS.icmpNo X7.here hx rfl (hb hby d5_52) rfl (tlt hc52_36).2.2.2 kz) ?_
          show Go _ _ _ _ _ T7 (mkF m 55 #[.val (.ref a), .val (.int (1 : Int32)), .val (.int (own_ch u1))] [])
          refine Go.of (fun _ kz => XS.iloadN X7.here hx rfl (hb hby d5_55) rfl (XS.bipush X7.here hx rfl (hb hby d5_56) kz)) ?_
          by_cases hc58_37 : (own_ch u1) = (95 : Int32)
          · refine Go.of (fun _ kz => XS.icmpYes X7.here hx rfl (pc0 := 58) (pc' := 63) rfl (hb hby d5_58) rfl (teq hc58_37).1 (by decide) (by decide) kz) ?_
            show Go _ _ _ _ _ T7 (mkF m 63 #[.val (.ref a), .val (.int (1 : Int32)), .val (.int (own_ch u1))] [])
            exact hgo1 (by simp [own_ltr, hc40_33, hc46_34, hc52_36, hc58_37])
          · refine Go.of (fun _ kz => XS.icmpNo X7.here hx rfl (hb hby d5_58) rfl (feq hc58_37).1 kz) ?_
            show Go _ _ _ _ _ T7 (mkF m 61 #[.val (.ref a), .val (.int (1 : Int32)), .val (.int (own_ch u1))] [])
            have hj1 : own_ltr (own_ch u1) = (0 : Int32) := by simp [own_ltr, hc40_33, hc46_34, hc52_36, hc58_37]
            refine Go.of (fun _ kz => XS.iconst X7.here hx rfl (hb hby d5_61) kz) ?_
            refine Go.ret X7 (v := some (.int (0 : Int32))) (fun h => by rw [Bd.returns] at h; cases h) Bd.notSynchronized (fun fs hr => retN X7 hx (t := .boolean) Bd.returns (by simp) (hb hby d5_62) hr) (by decide) (by decide) ?_
            show Q_rm_nm_5 Z _ _ _ _ _ _ _ _ _ _ _ _ _ _ h0 n0 _ T7.heap _
            rw [e7]
            exact ⟨by rw [← hr]; simp [own_nm, own_all, hc15_4, hj1], N7, rfl⟩
        · refine Go.of (fun _ kz => XS.icmpYes X7.here hx rfl (pc0 := 52) (pc' := 63) rfl (hb hby d5_52) rfl (flt hc52_36).2.2.2 (by decide) (by decide) kz) ?_
          show Go _ _ _ _ _ T7 (mkF m 63 #[.val (.ref a), .val (.int (1 : Int32)), .val (.int (own_ch u1))] [])
          exact hgo1 (by simp [own_ltr, hc40_33, hc46_34, hc52_36])
    · refine Go.of (fun _ kz => XS.ifYes X7.here hx rfl (pc0 := 40) (pc' := 63) rfl (hb hby d5_40) rfl ((if0 _ _).trans (feq hc40_33).2) (by decide) (by decide) kz) ?_
      show Go _ _ _ _ _ T7 (mkF m 63 #[.val (.ref a), .val (.int (1 : Int32)), .val (.int (own_ch u1))] [])
      exact hgo1 (by simp [own_ltr, hc40_33])

theorem d1_0 : decode method_4_code 0 = .ok (.iload_n 0, 1) := by decide +kernel
theorem d1_1 : decode method_4_code 1 = .ok (.ifCond .ne 7, 3) := by decide +kernel
theorem d1_8 : decode method_4_code 8 = .ok (.iload_n 0, 1) := by decide +kernel
theorem d1_9 : decode method_4_code 9 = .ok (.iconst 1, 1) := by decide +kernel
theorem d1_10 : decode method_4_code 10 = .ok (.if_icmp .ne 11, 3) := by decide +kernel
theorem d1_13 : decode method_4_code 13 = .ok (.iconst 1, 1) := by decide +kernel
theorem d1_14 : decode method_4_code 14 = .ok (.newarray .char, 2) := by decide +kernel
theorem d1_16 : decode method_4_code 16 = .ok (.dup, 1) := by decide +kernel
theorem d1_17 : decode method_4_code 17 = .ok (.iconst 0, 1) := by decide +kernel
theorem d1_18 : decode method_4_code 18 = .ok (.iload_n 1, 1) := by decide +kernel
theorem d1_19 : decode method_4_code 19 = .ok (.castore, 1) := by decide +kernel
theorem d1_20 : decode method_4_code 20 = .ok (.areturn, 1) := by decide +kernel
theorem pn_1 : plainName "com/example/fulla/fulla/model/LatticeIsNamePinLaw" = true := by first | (simp [plainName, overriddenIn]; done) | decide +kernel
theorem ef_rm_mk_1 (m : MethodId) (x0 : Int32) (x1 : Int32) (x2 : Int32) (x3 : Int32) (x4 : Int32) (x5 : Int32) : entryFrame m #[(.int x0), (.int x1), (.int x2), (.int x3), (.int x4), (.int x5)] 6 = mkF m 0 #[.val (.int x0), .val (.int x1), .val (.int x2), .val (.int x3), .val (.int x4), .val (.int x5)] [] := by first | (simp [entryFrame, mkF, argsToLocals, Value.category]; done) | rfl
def Q_rm_mk_1 (Z : State) (u0 : UInt16) (u1 : UInt16) (u2 : UInt16) (u3 : UInt16) (u4 : UInt16) (h0 : Heap) (n0 : Nat) (v : Option Value) (h : Heap) (L : List Loc) : Prop := ∃ (b : Addr) (kc : ClassId), v = some (.ref b) ∧ Fr n0 L ∧ Keep h0 h [] ∧ h0.size ≤ b ∧ Arv Z h b kc .char (1 : Int32) [(.int (own_ch u0))] (.int (0 : Int32))
set_option maxRecDepth 65536 in
set_option maxHeartbeats 40000000 in
theorem rm_mk_1 (l : Launch) (Z : State) (a0 : Array Value) (hw : ∀ d ∈ tables_1, d.before a0 Z = true) (wz : List Jvm.Cond) (u0 : UInt16) (u1 : UInt16) (u2 : UInt16) (u3 : UInt16) (u4 : UInt16) (h0 : Heap) (n0 : Nat) (O0 : Old Z n0 h0) :
    MetFree l y_25 (head1 (Jvm.Cond.code y_25 method_4_code 6 (some (.array .char)) :: wz) ({ frames := 0, cells := 1, slots := 1, locals := 0 } : Room)) (fun aZ UZ => aZ = #[(.int (1 : Int32)), (.int (own_ch u0)), (.int (own_ch u1)), (.int (own_ch u2)), (.int (own_ch u3)), (.int (own_ch u4))] ∧ Z.Warmed39 UZ.vm ∧ UZ.heap = h0) (fun _ _ _ _ _ => True) (fun _ UZ oZ UY => ∃ vZ LZ, oZ = .returned vZ ∧ Q_rm_mk_1 Z u0 u1 u2 u3 u4 h0 n0 vZ UY.heap LZ ∧ FrameEnd UZ oZ UY LZ ({ frames := 0, cells := 1, slots := 1, locals := 0 } : Room).cells ({ frames := 0, cells := 1, slots := 1, locals := 0 } : Room).slots) := by
  refine MetFree.of_bodySF (plainFor_of_name pn_1) hisR ?_
  intro p e s m args below meth c s₁ Bd hml0 hP hK
  obtain ⟨rfl, hZ, hh⟩ := hP
  have hx := Bd.exec
  have hby := Bd.bytes
  have hml : c.maxLocals = 6 := hml0
  have hown : s.vm.findClass "com/example/fulla/fulla/model/LatticeIsNamePinLaw" = some m.cls := findClass_of_methodNamed Bd.named
  have hnm := (name_of_methodNamed Bd.named Bd.method).1
  have X0 : Stand p l e ({ frames := 0, cells := 1, slots := 1, locals := 0 } : Room) s m #[(.int (1 : Int32)), (.int (own_ch u0)), (.int (own_ch u1)), (.int (own_ch u2)), (.int (own_ch u3)), (.int (own_ch u4))] below meth c s₁ [] 0 0 := Stand.of_body Bd
  have e0 : s₁.heap = h0 := by rw [← hh, Bd.state]; rfl
  have N0 := Fr.nil n0
  have Z0 : n0 ≤ h0.size := O0.1 ▸ O0.2.1
  have K0 := Keep.refl h0 []
  show Go p e below (fun oW tW LW => FrameEnd s oW tW LW ({ frames := 0, cells := 1, slots := 1, locals := 0 } : Room).cells ({ frames := 0, cells := 1, slots := 1, locals := 0 } : Room).slots) (Q_rm_mk_1 Z u0 u1 u2 u3 u4 h0 n0) s₁ (entryFrame m #[(.int (1 : Int32)), (.int (own_ch u0)), (.int (own_ch u1)), (.int (own_ch u2)), (.int (own_ch u3)), (.int (own_ch u4))] 6)
  refine Go.of (fun t kz => castTop (ef_rm_mk_1 m (1 : Int32) (own_ch u0) (own_ch u1) (own_ch u2) (own_ch u3) (own_ch u4)) kz) ?_
  show Go _ _ _ _ _ s₁ (mkF m 0 #[.val (.int (1 : Int32)), .val (.int (own_ch u0)), .val (.int (own_ch u1)), .val (.int (own_ch u2)), .val (.int (own_ch u3)), .val (.int (own_ch u4))] [])
  refine Go.of (fun _ kz => XS.iloadN X0.here hx rfl (hb hby d1_0) rfl kz) ?_
  refine Go.of (fun _ kz => XS.ifYes X0.here hx rfl (pc0 := 1) (pc' := 8) rfl (hb hby d1_1) rfl ((if0 _ _).trans (feq (by decide : ¬ (1 : Int32) = (0 : Int32))).2) (by decide) (by decide) kz) ?_
  refine Go.of (fun _ kz => XS.iloadN X0.here hx rfl (hb hby d1_8) rfl (XS.iconst X0.here hx rfl (hb hby d1_9) kz)) ?_
  refine Go.of (fun _ kz => XS.icmpNo X0.here hx rfl (hb hby d1_10) rfl (teq (by decide : (1 : Int32) = (1 : Int32))).2 kz) ?_
  refine Go.of (fun _ kz => XS.iconst X0.here hx rfl (hb hby d1_13) kz) ?_
  obtain ⟨T1, h1, k1, X1, e1, E1, A1, st1⟩ := newP (aty := .char) X0 hx hZ (w9 hw) e0 (g := (mkF m 14 #[.val (.int (1 : Int32)), .val (.int (own_ch u0)), .val (.int (own_ch u1)), .val (.int (own_ch u2)), .val (.int (own_ch u3)), .val (.int (own_ch u4))] [(.int (1 : Int32))])) rfl (hb hby d1_14) rfl (by decide) (cap := 1) (by decide) (by decide) (by decide) (by decide)
  obtain ⟨b1, g1⟩ : ∃ z, z = h0.size := ⟨_, rfl⟩
  rw [← g1] at A1 st1
  have ge_b1 : n0 ≤ b1 := Nat.le_trans (O0.1 ▸ O0.2.1) (Nat.le_of_eq g1.symm)
  have hsz_b1 := Nat.le_of_eq g1.symm
  have sz_b1 : h0.size ≤ b1 := Nat.le_trans (Keep.refl h0 []).1 (Nat.le_of_eq g1.symm)
  have O1 := O0.ext E1
  have Kk1 := (Keep.refl h0 []).ext E1
  have V_b1 : Arv Z h1 b1 k1 .char (1 : Int32) [(.int (0 : Int32))] (.int (0 : Int32)) := (Arv.new A1 (by decide)).pad (pad_rep [] (.int (0 : Int32)) 1)
  refine Go.of (fun _ kz => st1 _ kz) ?_
  show Go _ _ _ _ _ T1 (mkF m 16 #[.val (.int (1 : Int32)), .val (.int (own_ch u0)), .val (.int (own_ch u1)), .val (.int (own_ch u2)), .val (.int (own_ch u3)), .val (.int (own_ch u4))] [(.ref b1)])
  refine Go.of (fun _ kz => XS.dup X1.here hx rfl (hb hby d1_16) rfl rfl (XS.iconst X1.here hx rfl (hb hby d1_17) (XS.iloadN X1.here hx rfl (hb hby d1_18) rfl kz))) ?_
  obtain ⟨cl2a, Ar2a, q2a, S2a, N2a, H2a, G2a⟩ := id V_b1
  have hin2 := inb_of S2a (j := (0 : Int32)) ⟨by decide, by decide⟩
  obtain ⟨T2, h2, X2, e2, W2, st2⟩ := stC X1 hx hZ e1 Ar2a (j := (0 : Int32)) hin2 (g := (mkF m 19 #[.val (.int (1 : Int32)), .val (.int (own_ch u0)), .val (.int (own_ch u1)), .val (.int (own_ch u2)), .val (.int (own_ch u3)), .val (.int (own_ch u4))] [(.int (own_ch u0)), (.int (0 : Int32)), (.ref b1), (.ref b1)])) rfl rfl (hb hby d1_19)
  rw [own_narc u0] at W2
  have V2_b1 : Arv Z h2 b1 k1 .char (1 : Int32) [(.int (own_ch u0))] (.int (0 : Int32)) := Arv.set Ar2a q2a S2a N2a H2a G2a (own_fitc _) W2 0 rfl (Nat.le_of_ble_eq_true rfl)
  have O2 := O1.wr W2 ge_b1
  have Kk2 := Kk1.wr W2 (Or.inr sz_b1)
  have N2 := Fr.snoc X2 N0 ge_b1
  refine Go.of (fun _ kz => st2 _ kz) ?_
  refine Go.ret X2 (v := some (.ref b1)) (fun h => by rw [Bd.returns] at h; cases h) Bd.notSynchronized (fun fs hr => retOut X2 hx Bd.returns rfl (Or.inr (Or.inr (Or.inr (Or.inr ⟨rfl, rfl, rfl⟩)))) (hb hby d1_20) hr) (by decide) (by decide) ?_
  show Q_rm_mk_1 Z _ _ _ _ _ h0 n0 _ T2.heap _
  rw [e2]
  exact ⟨_, _, rfl, N2, Kk2, sz_b1, V2_b1⟩

theorem d1_21 : decode method_4_code 21 = .ok (.iload_n 0, 1) := by decide +kernel
theorem d1_22 : decode method_4_code 22 = .ok (.iconst 2, 1) := by decide +kernel
theorem d1_23 : decode method_4_code 23 = .ok (.if_icmp .ne 15, 3) := by decide +kernel
theorem d1_26 : decode method_4_code 26 = .ok (.iconst 2, 1) := by decide +kernel
theorem d1_27 : decode method_4_code 27 = .ok (.newarray .char, 2) := by decide +kernel
theorem d1_29 : decode method_4_code 29 = .ok (.dup, 1) := by decide +kernel
theorem d1_30 : decode method_4_code 30 = .ok (.iconst 0, 1) := by decide +kernel
theorem d1_31 : decode method_4_code 31 = .ok (.iload_n 1, 1) := by decide +kernel
theorem d1_32 : decode method_4_code 32 = .ok (.castore, 1) := by decide +kernel
theorem d1_33 : decode method_4_code 33 = .ok (.dup, 1) := by decide +kernel
theorem d1_34 : decode method_4_code 34 = .ok (.iconst 1, 1) := by decide +kernel
theorem d1_35 : decode method_4_code 35 = .ok (.iload_n 2, 1) := by decide +kernel
theorem d1_36 : decode method_4_code 36 = .ok (.castore, 1) := by decide +kernel
theorem d1_37 : decode method_4_code 37 = .ok (.areturn, 1) := by decide +kernel
theorem ef_rm_mk_2 (m : MethodId) (x0 : Int32) (x1 : Int32) (x2 : Int32) (x3 : Int32) (x4 : Int32) (x5 : Int32) : entryFrame m #[(.int x0), (.int x1), (.int x2), (.int x3), (.int x4), (.int x5)] 6 = mkF m 0 #[.val (.int x0), .val (.int x1), .val (.int x2), .val (.int x3), .val (.int x4), .val (.int x5)] [] := by first | (simp [entryFrame, mkF, argsToLocals, Value.category]; done) | rfl
def Q_rm_mk_2 (Z : State) (u0 : UInt16) (u1 : UInt16) (u2 : UInt16) (u3 : UInt16) (u4 : UInt16) (h0 : Heap) (n0 : Nat) (v : Option Value) (h : Heap) (L : List Loc) : Prop := ∃ (b : Addr) (kc : ClassId), v = some (.ref b) ∧ Fr n0 L ∧ Keep h0 h [] ∧ h0.size ≤ b ∧ Arv Z h b kc .char (2 : Int32) [(.int (own_ch u0)), (.int (own_ch u1))] (.int (0 : Int32))
set_option maxRecDepth 65536 in
set_option maxHeartbeats 40000000 in
theorem rm_mk_2 (l : Launch) (Z : State) (a0 : Array Value) (hw : ∀ d ∈ tables_1, d.before a0 Z = true) (wz : List Jvm.Cond) (u0 : UInt16) (u1 : UInt16) (u2 : UInt16) (u3 : UInt16) (u4 : UInt16) (h0 : Heap) (n0 : Nat) (O0 : Old Z n0 h0) :
    MetFree l y_25 (head1 (Jvm.Cond.code y_25 method_4_code 6 (some (.array .char)) :: wz) ({ frames := 0, cells := 1, slots := 2, locals := 0 } : Room)) (fun aZ UZ => aZ = #[(.int (2 : Int32)), (.int (own_ch u0)), (.int (own_ch u1)), (.int (own_ch u2)), (.int (own_ch u3)), (.int (own_ch u4))] ∧ Z.Warmed39 UZ.vm ∧ UZ.heap = h0) (fun _ _ _ _ _ => True) (fun _ UZ oZ UY => ∃ vZ LZ, oZ = .returned vZ ∧ Q_rm_mk_2 Z u0 u1 u2 u3 u4 h0 n0 vZ UY.heap LZ ∧ FrameEnd UZ oZ UY LZ ({ frames := 0, cells := 1, slots := 2, locals := 0 } : Room).cells ({ frames := 0, cells := 1, slots := 2, locals := 0 } : Room).slots) := by
  refine MetFree.of_bodySF (plainFor_of_name pn_1) hisR ?_
  intro p e s m args below meth c s₁ Bd hml0 hP hK
  obtain ⟨rfl, hZ, hh⟩ := hP
  have hx := Bd.exec
  have hby := Bd.bytes
  have hml : c.maxLocals = 6 := hml0
  have hown : s.vm.findClass "com/example/fulla/fulla/model/LatticeIsNamePinLaw" = some m.cls := findClass_of_methodNamed Bd.named
  have hnm := (name_of_methodNamed Bd.named Bd.method).1
  have X0 : Stand p l e ({ frames := 0, cells := 1, slots := 2, locals := 0 } : Room) s m #[(.int (2 : Int32)), (.int (own_ch u0)), (.int (own_ch u1)), (.int (own_ch u2)), (.int (own_ch u3)), (.int (own_ch u4))] below meth c s₁ [] 0 0 := Stand.of_body Bd
  have e0 : s₁.heap = h0 := by rw [← hh, Bd.state]; rfl
  have N0 := Fr.nil n0
  have Z0 : n0 ≤ h0.size := O0.1 ▸ O0.2.1
  have K0 := Keep.refl h0 []
  show Go p e below (fun oW tW LW => FrameEnd s oW tW LW ({ frames := 0, cells := 1, slots := 2, locals := 0 } : Room).cells ({ frames := 0, cells := 1, slots := 2, locals := 0 } : Room).slots) (Q_rm_mk_2 Z u0 u1 u2 u3 u4 h0 n0) s₁ (entryFrame m #[(.int (2 : Int32)), (.int (own_ch u0)), (.int (own_ch u1)), (.int (own_ch u2)), (.int (own_ch u3)), (.int (own_ch u4))] 6)
  refine Go.of (fun t kz => castTop (ef_rm_mk_2 m (2 : Int32) (own_ch u0) (own_ch u1) (own_ch u2) (own_ch u3) (own_ch u4)) kz) ?_
  show Go _ _ _ _ _ s₁ (mkF m 0 #[.val (.int (2 : Int32)), .val (.int (own_ch u0)), .val (.int (own_ch u1)), .val (.int (own_ch u2)), .val (.int (own_ch u3)), .val (.int (own_ch u4))] [])
  refine Go.of (fun _ kz => XS.iloadN X0.here hx rfl (hb hby d1_0) rfl kz) ?_
  refine Go.of (fun _ kz => XS.ifYes X0.here hx rfl (pc0 := 1) (pc' := 8) rfl (hb hby d1_1) rfl ((if0 _ _).trans (feq (by decide : ¬ (2 : Int32) = (0 : Int32))).2) (by decide) (by decide) kz) ?_
  refine Go.of (fun _ kz => XS.iloadN X0.here hx rfl (hb hby d1_8) rfl (XS.iconst X0.here hx rfl (hb hby d1_9) kz)) ?_
  refine Go.of (fun _ kz => XS.icmpYes X0.here hx rfl (pc0 := 10) (pc' := 21) rfl (hb hby d1_10) rfl (feq (by decide : ¬ (2 : Int32) = (1 : Int32))).2 (by decide) (by decide) kz) ?_
  refine Go.of (fun _ kz => XS.iloadN X0.here hx rfl (hb hby d1_21) rfl (XS.iconst X0.here hx rfl (hb hby d1_22) kz)) ?_
  show Go _ _ _ _ _ s₁ (mkF m 23 #[.val (.int (2 : Int32)), .val (.int (own_ch u0)), .val (.int (own_ch u1)), .val (.int (own_ch u2)), .val (.int (own_ch u3)), .val (.int (own_ch u4))] [(.int (2 : Int32)), (.int (2 : Int32))])
  refine Go.of (fun _ kz => XS.icmpNo X0.here hx rfl (hb hby d1_23) rfl (teq (by decide : (2 : Int32) = (2 : Int32))).2 kz) ?_
  refine Go.of (fun _ kz => XS.iconst X0.here hx rfl (hb hby d1_26) kz) ?_
  obtain ⟨T1, h1, k1, X1, e1, E1, A1, st1⟩ := newP (aty := .char) X0 hx hZ (w9 hw) e0 (g := (mkF m 27 #[.val (.int (2 : Int32)), .val (.int (own_ch u0)), .val (.int (own_ch u1)), .val (.int (own_ch u2)), .val (.int (own_ch u3)), .val (.int (own_ch u4))] [(.int (2 : Int32))])) rfl (hb hby d1_27) rfl (by decide) (cap := 2) (by decide) (by decide) (by decide) (by decide)
  obtain ⟨b1, g1⟩ : ∃ z, z = h0.size := ⟨_, rfl⟩
  rw [← g1] at A1 st1
  have ge_b1 : n0 ≤ b1 := Nat.le_trans (O0.1 ▸ O0.2.1) (Nat.le_of_eq g1.symm)
  have hsz_b1 := Nat.le_of_eq g1.symm
  have sz_b1 : h0.size ≤ b1 := Nat.le_trans (Keep.refl h0 []).1 (Nat.le_of_eq g1.symm)
  have O1 := O0.ext E1
  have Kk1 := (Keep.refl h0 []).ext E1
  have V_b1 : Arv Z h1 b1 k1 .char (2 : Int32) [(.int (0 : Int32)), (.int (0 : Int32))] (.int (0 : Int32)) := (Arv.new A1 (by decide)).pad (pad_rep [] (.int (0 : Int32)) 2)
  refine Go.of (fun _ kz => st1 _ kz) ?_
  refine Go.of (fun _ kz => XS.dup X1.here hx rfl (hb hby d1_29) rfl rfl (XS.iconst X1.here hx rfl (hb hby d1_30) (XS.iloadN X1.here hx rfl (hb hby d1_31) rfl kz))) ?_
  obtain ⟨cl2a, Ar2a, q2a, S2a, N2a, H2a, G2a⟩ := id V_b1
  have hin2 := inb_of S2a (j := (0 : Int32)) ⟨by decide, by decide⟩
  obtain ⟨T2, h2, X2, e2, W2, st2⟩ := stC X1 hx hZ e1 Ar2a (j := (0 : Int32)) hin2 (g := (mkF m 32 #[.val (.int (2 : Int32)), .val (.int (own_ch u0)), .val (.int (own_ch u1)), .val (.int (own_ch u2)), .val (.int (own_ch u3)), .val (.int (own_ch u4))] [(.int (own_ch u0)), (.int (0 : Int32)), (.ref b1), (.ref b1)])) rfl rfl (hb hby d1_32)
  rw [own_narc u0] at W2
  have V2_b1 : Arv Z h2 b1 k1 .char (2 : Int32) [(.int (own_ch u0)), (.int (0 : Int32))] (.int (0 : Int32)) := Arv.set Ar2a q2a S2a N2a H2a G2a (own_fitc _) W2 0 rfl (Nat.le_of_ble_eq_true rfl)
  have O2 := O1.wr W2 ge_b1
  have Kk2 := Kk1.wr W2 (Or.inr sz_b1)
  have N2 := Fr.snoc X2 N0 ge_b1
  refine Go.of (fun _ kz => st2 _ kz) ?_
  show Go _ _ _ _ _ T2 (mkF m 33 #[.val (.int (2 : Int32)), .val (.int (own_ch u0)), .val (.int (own_ch u1)), .val (.int (own_ch u2)), .val (.int (own_ch u3)), .val (.int (own_ch u4))] [(.ref b1)])
  refine Go.of (fun _ kz => XS.dup X2.here hx rfl (hb hby d1_33) rfl rfl (XS.iconst X2.here hx rfl (hb hby d1_34) (XS.iloadN X2.here hx rfl (hb hby d1_35) rfl kz))) ?_
  obtain ⟨cl3a, Ar3a, q3a, S3a, N3a, H3a, G3a⟩ := id V2_b1
  have hin3 := inb_of S3a (j := (1 : Int32)) ⟨by decide, by decide⟩
  obtain ⟨T3, h3, X3, e3, W3, st3⟩ := stC X2 hx hZ e2 Ar3a (j := (1 : Int32)) hin3 (g := (mkF m 36 #[.val (.int (2 : Int32)), .val (.int (own_ch u0)), .val (.int (own_ch u1)), .val (.int (own_ch u2)), .val (.int (own_ch u3)), .val (.int (own_ch u4))] [(.int (own_ch u1)), (.int (1 : Int32)), (.ref b1), (.ref b1)])) rfl rfl (hb hby d1_36)
  rw [own_narc u1] at W3
  have V3_b1 : Arv Z h3 b1 k1 .char (2 : Int32) [(.int (own_ch u0)), (.int (own_ch u1))] (.int (0 : Int32)) := Arv.set Ar3a q3a S3a N3a H3a G3a (own_fitc _) W3 1 rfl (Nat.le_of_ble_eq_true rfl)
  have O3 := O2.wr W3 ge_b1
  have Kk3 := Kk2.wr W3 (Or.inr sz_b1)
  have N3 := Fr.snoc X3 N2 ge_b1
  refine Go.of (fun _ kz => st3 _ kz) ?_
  refine Go.ret X3 (v := some (.ref b1)) (fun h => by rw [Bd.returns] at h; cases h) Bd.notSynchronized (fun fs hr => retOut X3 hx Bd.returns rfl (Or.inr (Or.inr (Or.inr (Or.inr ⟨rfl, rfl, rfl⟩)))) (hb hby d1_37) hr) (by decide) (by decide) ?_
  show Q_rm_mk_2 Z _ _ _ _ _ h0 n0 _ T3.heap _
  rw [e3]
  exact ⟨_, _, rfl, N3, Kk3, sz_b1, V3_b1⟩

theorem d1_38 : decode method_4_code 38 = .ok (.iload_n 0, 1) := by decide +kernel
theorem d1_39 : decode method_4_code 39 = .ok (.iconst 3, 1) := by decide +kernel
theorem d1_40 : decode method_4_code 40 = .ok (.if_icmp .ne 19, 3) := by decide +kernel
theorem d1_43 : decode method_4_code 43 = .ok (.iconst 3, 1) := by decide +kernel
theorem d1_44 : decode method_4_code 44 = .ok (.newarray .char, 2) := by decide +kernel
theorem d1_46 : decode method_4_code 46 = .ok (.dup, 1) := by decide +kernel
theorem d1_47 : decode method_4_code 47 = .ok (.iconst 0, 1) := by decide +kernel
theorem d1_48 : decode method_4_code 48 = .ok (.iload_n 1, 1) := by decide +kernel
theorem d1_49 : decode method_4_code 49 = .ok (.castore, 1) := by decide +kernel
theorem d1_50 : decode method_4_code 50 = .ok (.dup, 1) := by decide +kernel
theorem d1_51 : decode method_4_code 51 = .ok (.iconst 1, 1) := by decide +kernel
theorem d1_52 : decode method_4_code 52 = .ok (.iload_n 2, 1) := by decide +kernel
theorem d1_53 : decode method_4_code 53 = .ok (.castore, 1) := by decide +kernel
theorem d1_54 : decode method_4_code 54 = .ok (.dup, 1) := by decide +kernel
theorem d1_55 : decode method_4_code 55 = .ok (.iconst 2, 1) := by decide +kernel
theorem d1_56 : decode method_4_code 56 = .ok (.iload_n 3, 1) := by decide +kernel
theorem d1_57 : decode method_4_code 57 = .ok (.castore, 1) := by decide +kernel
theorem d1_58 : decode method_4_code 58 = .ok (.areturn, 1) := by decide +kernel
theorem ef_rm_mk_3 (m : MethodId) (x0 : Int32) (x1 : Int32) (x2 : Int32) (x3 : Int32) (x4 : Int32) (x5 : Int32) : entryFrame m #[(.int x0), (.int x1), (.int x2), (.int x3), (.int x4), (.int x5)] 6 = mkF m 0 #[.val (.int x0), .val (.int x1), .val (.int x2), .val (.int x3), .val (.int x4), .val (.int x5)] [] := by first | (simp [entryFrame, mkF, argsToLocals, Value.category]; done) | rfl
def Q_rm_mk_3 (Z : State) (u0 : UInt16) (u1 : UInt16) (u2 : UInt16) (u3 : UInt16) (u4 : UInt16) (h0 : Heap) (n0 : Nat) (v : Option Value) (h : Heap) (L : List Loc) : Prop := ∃ (b : Addr) (kc : ClassId), v = some (.ref b) ∧ Fr n0 L ∧ Keep h0 h [] ∧ h0.size ≤ b ∧ Arv Z h b kc .char (3 : Int32) [(.int (own_ch u0)), (.int (own_ch u1)), (.int (own_ch u2))] (.int (0 : Int32))
set_option maxRecDepth 65536 in
set_option maxHeartbeats 40000000 in
theorem rm_mk_3 (l : Launch) (Z : State) (a0 : Array Value) (hw : ∀ d ∈ tables_1, d.before a0 Z = true) (wz : List Jvm.Cond) (u0 : UInt16) (u1 : UInt16) (u2 : UInt16) (u3 : UInt16) (u4 : UInt16) (h0 : Heap) (n0 : Nat) (O0 : Old Z n0 h0) :
    MetFree l y_25 (head1 (Jvm.Cond.code y_25 method_4_code 6 (some (.array .char)) :: wz) ({ frames := 0, cells := 1, slots := 3, locals := 0 } : Room)) (fun aZ UZ => aZ = #[(.int (3 : Int32)), (.int (own_ch u0)), (.int (own_ch u1)), (.int (own_ch u2)), (.int (own_ch u3)), (.int (own_ch u4))] ∧ Z.Warmed39 UZ.vm ∧ UZ.heap = h0) (fun _ _ _ _ _ => True) (fun _ UZ oZ UY => ∃ vZ LZ, oZ = .returned vZ ∧ Q_rm_mk_3 Z u0 u1 u2 u3 u4 h0 n0 vZ UY.heap LZ ∧ FrameEnd UZ oZ UY LZ ({ frames := 0, cells := 1, slots := 3, locals := 0 } : Room).cells ({ frames := 0, cells := 1, slots := 3, locals := 0 } : Room).slots) := by
  refine MetFree.of_bodySF (plainFor_of_name pn_1) hisR ?_
  intro p e s m args below meth c s₁ Bd hml0 hP hK
  obtain ⟨rfl, hZ, hh⟩ := hP
  have hx := Bd.exec
  have hby := Bd.bytes
  have hml : c.maxLocals = 6 := hml0
  have hown : s.vm.findClass "com/example/fulla/fulla/model/LatticeIsNamePinLaw" = some m.cls := findClass_of_methodNamed Bd.named
  have hnm := (name_of_methodNamed Bd.named Bd.method).1
  have X0 : Stand p l e ({ frames := 0, cells := 1, slots := 3, locals := 0 } : Room) s m #[(.int (3 : Int32)), (.int (own_ch u0)), (.int (own_ch u1)), (.int (own_ch u2)), (.int (own_ch u3)), (.int (own_ch u4))] below meth c s₁ [] 0 0 := Stand.of_body Bd
  have e0 : s₁.heap = h0 := by rw [← hh, Bd.state]; rfl
  have N0 := Fr.nil n0
  have Z0 : n0 ≤ h0.size := O0.1 ▸ O0.2.1
  have K0 := Keep.refl h0 []
  show Go p e below (fun oW tW LW => FrameEnd s oW tW LW ({ frames := 0, cells := 1, slots := 3, locals := 0 } : Room).cells ({ frames := 0, cells := 1, slots := 3, locals := 0 } : Room).slots) (Q_rm_mk_3 Z u0 u1 u2 u3 u4 h0 n0) s₁ (entryFrame m #[(.int (3 : Int32)), (.int (own_ch u0)), (.int (own_ch u1)), (.int (own_ch u2)), (.int (own_ch u3)), (.int (own_ch u4))] 6)
  refine Go.of (fun t kz => castTop (ef_rm_mk_3 m (3 : Int32) (own_ch u0) (own_ch u1) (own_ch u2) (own_ch u3) (own_ch u4)) kz) ?_
  show Go _ _ _ _ _ s₁ (mkF m 0 #[.val (.int (3 : Int32)), .val (.int (own_ch u0)), .val (.int (own_ch u1)), .val (.int (own_ch u2)), .val (.int (own_ch u3)), .val (.int (own_ch u4))] [])
  refine Go.of (fun _ kz => XS.iloadN X0.here hx rfl (hb hby d1_0) rfl kz) ?_
  refine Go.of (fun _ kz => XS.ifYes X0.here hx rfl (pc0 := 1) (pc' := 8) rfl (hb hby d1_1) rfl ((if0 _ _).trans (feq (by decide : ¬ (3 : Int32) = (0 : Int32))).2) (by decide) (by decide) kz) ?_
  refine Go.of (fun _ kz => XS.iloadN X0.here hx rfl (hb hby d1_8) rfl (XS.iconst X0.here hx rfl (hb hby d1_9) kz)) ?_
  refine Go.of (fun _ kz => XS.icmpYes X0.here hx rfl (pc0 := 10) (pc' := 21) rfl (hb hby d1_10) rfl (feq (by decide : ¬ (3 : Int32) = (1 : Int32))).2 (by decide) (by decide) kz) ?_
  refine Go.of (fun _ kz => XS.iloadN X0.here hx rfl (hb hby d1_21) rfl (XS.iconst X0.here hx rfl (hb hby d1_22) kz)) ?_
  show Go _ _ _ _ _ s₁ (mkF m 23 #[.val (.int (3 : Int32)), .val (.int (own_ch u0)), .val (.int (own_ch u1)), .val (.int (own_ch u2)), .val (.int (own_ch u3)), .val (.int (own_ch u4))] [(.int (2 : Int32)), (.int (3 : Int32))])
  refine Go.of (fun _ kz => XS.icmpYes X0.here hx rfl (pc0 := 23) (pc' := 38) rfl (hb hby d1_23) rfl (feq (by decide : ¬ (3 : Int32) = (2 : Int32))).2 (by decide) (by decide) kz) ?_
  refine Go.of (fun _ kz => XS.iloadN X0.here hx rfl (hb hby d1_38) rfl (XS.iconst X0.here hx rfl (hb hby d1_39) kz)) ?_
  refine Go.of (fun _ kz => XS.icmpNo X0.here hx rfl (hb hby d1_40) rfl (teq (by decide : (3 : Int32) = (3 : Int32))).2 kz) ?_
  refine Go.of (fun _ kz => XS.iconst X0.here hx rfl (hb hby d1_43) kz) ?_
  obtain ⟨T1, h1, k1, X1, e1, E1, A1, st1⟩ := newP (aty := .char) X0 hx hZ (w9 hw) e0 (g := (mkF m 44 #[.val (.int (3 : Int32)), .val (.int (own_ch u0)), .val (.int (own_ch u1)), .val (.int (own_ch u2)), .val (.int (own_ch u3)), .val (.int (own_ch u4))] [(.int (3 : Int32))])) rfl (hb hby d1_44) rfl (by decide) (cap := 3) (by decide) (by decide) (by decide) (by decide)
  obtain ⟨b1, g1⟩ : ∃ z, z = h0.size := ⟨_, rfl⟩
  rw [← g1] at A1 st1
  have ge_b1 : n0 ≤ b1 := Nat.le_trans (O0.1 ▸ O0.2.1) (Nat.le_of_eq g1.symm)
  have hsz_b1 := Nat.le_of_eq g1.symm
  have sz_b1 : h0.size ≤ b1 := Nat.le_trans (Keep.refl h0 []).1 (Nat.le_of_eq g1.symm)
  have O1 := O0.ext E1
  have Kk1 := (Keep.refl h0 []).ext E1
  have V_b1 : Arv Z h1 b1 k1 .char (3 : Int32) [(.int (0 : Int32)), (.int (0 : Int32)), (.int (0 : Int32))] (.int (0 : Int32)) := (Arv.new A1 (by decide)).pad (pad_rep [] (.int (0 : Int32)) 3)
  refine Go.of (fun _ kz => st1 _ kz) ?_
  refine Go.of (fun _ kz => XS.dup X1.here hx rfl (hb hby d1_46) rfl rfl (XS.iconst X1.here hx rfl (hb hby d1_47) (XS.iloadN X1.here hx rfl (hb hby d1_48) rfl kz))) ?_
  show Go _ _ _ _ _ T1 (mkF m 49 #[.val (.int (3 : Int32)), .val (.int (own_ch u0)), .val (.int (own_ch u1)), .val (.int (own_ch u2)), .val (.int (own_ch u3)), .val (.int (own_ch u4))] [(.int (own_ch u0)), (.int (0 : Int32)), (.ref b1), (.ref b1)])
  obtain ⟨cl2a, Ar2a, q2a, S2a, N2a, H2a, G2a⟩ := id V_b1
  have hin2 := inb_of S2a (j := (0 : Int32)) ⟨by decide, by decide⟩
  obtain ⟨T2, h2, X2, e2, W2, st2⟩ := stC X1 hx hZ e1 Ar2a (j := (0 : Int32)) hin2 (g := (mkF m 49 #[.val (.int (3 : Int32)), .val (.int (own_ch u0)), .val (.int (own_ch u1)), .val (.int (own_ch u2)), .val (.int (own_ch u3)), .val (.int (own_ch u4))] [(.int (own_ch u0)), (.int (0 : Int32)), (.ref b1), (.ref b1)])) rfl rfl (hb hby d1_49)
  rw [own_narc u0] at W2
  have V2_b1 : Arv Z h2 b1 k1 .char (3 : Int32) [(.int (own_ch u0)), (.int (0 : Int32)), (.int (0 : Int32))] (.int (0 : Int32)) := Arv.set Ar2a q2a S2a N2a H2a G2a (own_fitc _) W2 0 rfl (Nat.le_of_ble_eq_true rfl)
  have O2 := O1.wr W2 ge_b1
  have Kk2 := Kk1.wr W2 (Or.inr sz_b1)
  have N2 := Fr.snoc X2 N0 ge_b1
  refine Go.of (fun _ kz => st2 _ kz) ?_
  refine Go.of (fun _ kz => XS.dup X2.here hx rfl (hb hby d1_50) rfl rfl (XS.iconst X2.here hx rfl (hb hby d1_51) (XS.iloadN X2.here hx rfl (hb hby d1_52) rfl kz))) ?_
  obtain ⟨cl3a, Ar3a, q3a, S3a, N3a, H3a, G3a⟩ := id V2_b1
  have hin3 := inb_of S3a (j := (1 : Int32)) ⟨by decide, by decide⟩
  obtain ⟨T3, h3, X3, e3, W3, st3⟩ := stC X2 hx hZ e2 Ar3a (j := (1 : Int32)) hin3 (g := (mkF m 53 #[.val (.int (3 : Int32)), .val (.int (own_ch u0)), .val (.int (own_ch u1)), .val (.int (own_ch u2)), .val (.int (own_ch u3)), .val (.int (own_ch u4))] [(.int (own_ch u1)), (.int (1 : Int32)), (.ref b1), (.ref b1)])) rfl rfl (hb hby d1_53)
  rw [own_narc u1] at W3
  have V3_b1 : Arv Z h3 b1 k1 .char (3 : Int32) [(.int (own_ch u0)), (.int (own_ch u1)), (.int (0 : Int32))] (.int (0 : Int32)) := Arv.set Ar3a q3a S3a N3a H3a G3a (own_fitc _) W3 1 rfl (Nat.le_of_ble_eq_true rfl)
  have O3 := O2.wr W3 ge_b1
  have Kk3 := Kk2.wr W3 (Or.inr sz_b1)
  have N3 := Fr.snoc X3 N2 ge_b1
  refine Go.of (fun _ kz => st3 _ kz) ?_
  refine Go.of (fun _ kz => XS.dup X3.here hx rfl (hb hby d1_54) rfl rfl (XS.iconst X3.here hx rfl (hb hby d1_55) (XS.iloadN X3.here hx rfl (hb hby d1_56) rfl kz))) ?_
  show Go _ _ _ _ _ T3 (mkF m 57 #[.val (.int (3 : Int32)), .val (.int (own_ch u0)), .val (.int (own_ch u1)), .val (.int (own_ch u2)), .val (.int (own_ch u3)), .val (.int (own_ch u4))] [(.int (own_ch u2)), (.int (2 : Int32)), (.ref b1), (.ref b1)])
  obtain ⟨cl4a, Ar4a, q4a, S4a, N4a, H4a, G4a⟩ := id V3_b1
  have hin4 := inb_of S4a (j := (2 : Int32)) ⟨by decide, by decide⟩
  obtain ⟨T4, h4, X4, e4, W4, st4⟩ := stC X3 hx hZ e3 Ar4a (j := (2 : Int32)) hin4 (g := (mkF m 57 #[.val (.int (3 : Int32)), .val (.int (own_ch u0)), .val (.int (own_ch u1)), .val (.int (own_ch u2)), .val (.int (own_ch u3)), .val (.int (own_ch u4))] [(.int (own_ch u2)), (.int (2 : Int32)), (.ref b1), (.ref b1)])) rfl rfl (hb hby d1_57)
  rw [own_narc u2] at W4
  have V4_b1 : Arv Z h4 b1 k1 .char (3 : Int32) [(.int (own_ch u0)), (.int (own_ch u1)), (.int (own_ch u2))] (.int (0 : Int32)) := Arv.set Ar4a q4a S4a N4a H4a G4a (own_fitc _) W4 2 rfl (Nat.le_of_ble_eq_true rfl)
  have O4 := O3.wr W4 ge_b1
  have Kk4 := Kk3.wr W4 (Or.inr sz_b1)
  have N4 := Fr.snoc X4 N3 ge_b1
  refine Go.of (fun _ kz => st4 _ kz) ?_
  refine Go.ret X4 (v := some (.ref b1)) (fun h => by rw [Bd.returns] at h; cases h) Bd.notSynchronized (fun fs hr => retOut X4 hx Bd.returns rfl (Or.inr (Or.inr (Or.inr (Or.inr ⟨rfl, rfl, rfl⟩)))) (hb hby d1_58) hr) (by decide) (by decide) ?_
  show Q_rm_mk_3 Z _ _ _ _ _ h0 n0 _ T4.heap _
  rw [e4]
  exact ⟨_, _, rfl, N4, Kk4, sz_b1, V4_b1⟩

theorem d1_59 : decode method_4_code 59 = .ok (.iload_n 0, 1) := by decide +kernel
theorem d1_60 : decode method_4_code 60 = .ok (.iconst 4, 1) := by decide +kernel
theorem d1_61 : decode method_4_code 61 = .ok (.if_icmp .ne 24, 3) := by decide +kernel
theorem d1_64 : decode method_4_code 64 = .ok (.iconst 4, 1) := by decide +kernel
theorem d1_65 : decode method_4_code 65 = .ok (.newarray .char, 2) := by decide +kernel
theorem d1_67 : decode method_4_code 67 = .ok (.dup, 1) := by decide +kernel
theorem d1_68 : decode method_4_code 68 = .ok (.iconst 0, 1) := by decide +kernel
theorem d1_69 : decode method_4_code 69 = .ok (.iload_n 1, 1) := by decide +kernel
theorem d1_70 : decode method_4_code 70 = .ok (.castore, 1) := by decide +kernel
theorem d1_71 : decode method_4_code 71 = .ok (.dup, 1) := by decide +kernel
theorem d1_72 : decode method_4_code 72 = .ok (.iconst 1, 1) := by decide +kernel
theorem d1_73 : decode method_4_code 73 = .ok (.iload_n 2, 1) := by decide +kernel
theorem d1_74 : decode method_4_code 74 = .ok (.castore, 1) := by decide +kernel
theorem d1_75 : decode method_4_code 75 = .ok (.dup, 1) := by decide +kernel
theorem d1_76 : decode method_4_code 76 = .ok (.iconst 2, 1) := by decide +kernel
theorem d1_77 : decode method_4_code 77 = .ok (.iload_n 3, 1) := by decide +kernel
theorem d1_78 : decode method_4_code 78 = .ok (.castore, 1) := by decide +kernel
theorem d1_79 : decode method_4_code 79 = .ok (.dup, 1) := by decide +kernel
theorem d1_80 : decode method_4_code 80 = .ok (.iconst 3, 1) := by decide +kernel
theorem d1_81 : decode method_4_code 81 = .ok (.iload 4, 2) := by decide +kernel
theorem d1_83 : decode method_4_code 83 = .ok (.castore, 1) := by decide +kernel
theorem d1_84 : decode method_4_code 84 = .ok (.areturn, 1) := by decide +kernel
theorem ef_rm_mk_4 (m : MethodId) (x0 : Int32) (x1 : Int32) (x2 : Int32) (x3 : Int32) (x4 : Int32) (x5 : Int32) : entryFrame m #[(.int x0), (.int x1), (.int x2), (.int x3), (.int x4), (.int x5)] 6 = mkF m 0 #[.val (.int x0), .val (.int x1), .val (.int x2), .val (.int x3), .val (.int x4), .val (.int x5)] [] := by first | (simp [entryFrame, mkF, argsToLocals, Value.category]; done) | rfl
def Q_rm_mk_4 (Z : State) (u0 : UInt16) (u1 : UInt16) (u2 : UInt16) (u3 : UInt16) (u4 : UInt16) (h0 : Heap) (n0 : Nat) (v : Option Value) (h : Heap) (L : List Loc) : Prop := ∃ (b : Addr) (kc : ClassId), v = some (.ref b) ∧ Fr n0 L ∧ Keep h0 h [] ∧ h0.size ≤ b ∧ Arv Z h b kc .char (4 : Int32) [(.int (own_ch u0)), (.int (own_ch u1)), (.int (own_ch u2)), (.int (own_ch u3))] (.int (0 : Int32))
set_option maxRecDepth 65536 in
set_option maxHeartbeats 40000000 in
theorem rm_mk_4 (l : Launch) (Z : State) (a0 : Array Value) (hw : ∀ d ∈ tables_1, d.before a0 Z = true) (wz : List Jvm.Cond) (u0 : UInt16) (u1 : UInt16) (u2 : UInt16) (u3 : UInt16) (u4 : UInt16) (h0 : Heap) (n0 : Nat) (O0 : Old Z n0 h0) :
    MetFree l y_25 (head1 (Jvm.Cond.code y_25 method_4_code 6 (some (.array .char)) :: wz) ({ frames := 0, cells := 1, slots := 4, locals := 0 } : Room)) (fun aZ UZ => aZ = #[(.int (4 : Int32)), (.int (own_ch u0)), (.int (own_ch u1)), (.int (own_ch u2)), (.int (own_ch u3)), (.int (own_ch u4))] ∧ Z.Warmed39 UZ.vm ∧ UZ.heap = h0) (fun _ _ _ _ _ => True) (fun _ UZ oZ UY => ∃ vZ LZ, oZ = .returned vZ ∧ Q_rm_mk_4 Z u0 u1 u2 u3 u4 h0 n0 vZ UY.heap LZ ∧ FrameEnd UZ oZ UY LZ ({ frames := 0, cells := 1, slots := 4, locals := 0 } : Room).cells ({ frames := 0, cells := 1, slots := 4, locals := 0 } : Room).slots) := by
  refine MetFree.of_bodySF (plainFor_of_name pn_1) hisR ?_
  intro p e s m args below meth c s₁ Bd hml0 hP hK
  obtain ⟨rfl, hZ, hh⟩ := hP
  have hx := Bd.exec
  have hby := Bd.bytes
  have hml : c.maxLocals = 6 := hml0
  have hown : s.vm.findClass "com/example/fulla/fulla/model/LatticeIsNamePinLaw" = some m.cls := findClass_of_methodNamed Bd.named
  have hnm := (name_of_methodNamed Bd.named Bd.method).1
  have X0 : Stand p l e ({ frames := 0, cells := 1, slots := 4, locals := 0 } : Room) s m #[(.int (4 : Int32)), (.int (own_ch u0)), (.int (own_ch u1)), (.int (own_ch u2)), (.int (own_ch u3)), (.int (own_ch u4))] below meth c s₁ [] 0 0 := Stand.of_body Bd
  have e0 : s₁.heap = h0 := by rw [← hh, Bd.state]; rfl
  have N0 := Fr.nil n0
  have Z0 : n0 ≤ h0.size := O0.1 ▸ O0.2.1
  have K0 := Keep.refl h0 []
  show Go p e below (fun oW tW LW => FrameEnd s oW tW LW ({ frames := 0, cells := 1, slots := 4, locals := 0 } : Room).cells ({ frames := 0, cells := 1, slots := 4, locals := 0 } : Room).slots) (Q_rm_mk_4 Z u0 u1 u2 u3 u4 h0 n0) s₁ (entryFrame m #[(.int (4 : Int32)), (.int (own_ch u0)), (.int (own_ch u1)), (.int (own_ch u2)), (.int (own_ch u3)), (.int (own_ch u4))] 6)
  refine Go.of (fun t kz => castTop (ef_rm_mk_4 m (4 : Int32) (own_ch u0) (own_ch u1) (own_ch u2) (own_ch u3) (own_ch u4)) kz) ?_
  show Go _ _ _ _ _ s₁ (mkF m 0 #[.val (.int (4 : Int32)), .val (.int (own_ch u0)), .val (.int (own_ch u1)), .val (.int (own_ch u2)), .val (.int (own_ch u3)), .val (.int (own_ch u4))] [])
  refine Go.of (fun _ kz => XS.iloadN X0.here hx rfl (hb hby d1_0) rfl kz) ?_
  refine Go.of (fun _ kz => XS.ifYes X0.here hx rfl (pc0 := 1) (pc' := 8) rfl (hb hby d1_1) rfl ((if0 _ _).trans (feq (by decide : ¬ (4 : Int32) = (0 : Int32))).2) (by decide) (by decide) kz) ?_
  refine Go.of (fun _ kz => XS.iloadN X0.here hx rfl (hb hby d1_8) rfl (XS.iconst X0.here hx rfl (hb hby d1_9) kz)) ?_
  refine Go.of (fun _ kz => XS.icmpYes X0.here hx rfl (pc0 := 10) (pc' := 21) rfl (hb hby d1_10) rfl (feq (by decide : ¬ (4 : Int32) = (1 : Int32))).2 (by decide) (by decide) kz) ?_
  refine Go.of (fun _ kz => XS.iloadN X0.here hx rfl (hb hby d1_21) rfl (XS.iconst X0.here hx rfl (hb hby d1_22) kz)) ?_
  show Go _ _ _ _ _ s₁ (mkF m 23 #[.val (.int (4 : Int32)), .val (.int (own_ch u0)), .val (.int (own_ch u1)), .val (.int (own_ch u2)), .val (.int (own_ch u3)), .val (.int (own_ch u4))] [(.int (2 : Int32)), (.int (4 : Int32))])
  refine Go.of (fun _ kz => XS.icmpYes X0.here hx rfl (pc0 := 23) (pc' := 38) rfl (hb hby d1_23) rfl (feq (by decide : ¬ (4 : Int32) = (2 : Int32))).2 (by decide) (by decide) kz) ?_
  refine Go.of (fun _ kz => XS.iloadN X0.here hx rfl (hb hby d1_38) rfl (XS.iconst X0.here hx rfl (hb hby d1_39) kz)) ?_
  refine Go.of (fun _ kz => XS.icmpYes X0.here hx rfl (pc0 := 40) (pc' := 59) rfl (hb hby d1_40) rfl (feq (by decide : ¬ (4 : Int32) = (3 : Int32))).2 (by decide) (by decide) kz) ?_
  refine Go.of (fun _ kz => XS.iloadN X0.here hx rfl (hb hby d1_59) rfl (XS.iconst X0.here hx rfl (hb hby d1_60) kz)) ?_
  refine Go.of (fun _ kz => XS.icmpNo X0.here hx rfl (hb hby d1_61) rfl (teq (by decide : (4 : Int32) = (4 : Int32))).2 kz) ?_
  show Go _ _ _ _ _ s₁ (mkF m 64 #[.val (.int (4 : Int32)), .val (.int (own_ch u0)), .val (.int (own_ch u1)), .val (.int (own_ch u2)), .val (.int (own_ch u3)), .val (.int (own_ch u4))] [])
  refine Go.of (fun _ kz => XS.iconst X0.here hx rfl (hb hby d1_64) kz) ?_
  obtain ⟨T1, h1, k1, X1, e1, E1, A1, st1⟩ := newP (aty := .char) X0 hx hZ (w9 hw) e0 (g := (mkF m 65 #[.val (.int (4 : Int32)), .val (.int (own_ch u0)), .val (.int (own_ch u1)), .val (.int (own_ch u2)), .val (.int (own_ch u3)), .val (.int (own_ch u4))] [(.int (4 : Int32))])) rfl (hb hby d1_65) rfl (by decide) (cap := 4) (by decide) (by decide) (by decide) (by decide)
  obtain ⟨b1, g1⟩ : ∃ z, z = h0.size := ⟨_, rfl⟩
  rw [← g1] at A1 st1
  have ge_b1 : n0 ≤ b1 := Nat.le_trans (O0.1 ▸ O0.2.1) (Nat.le_of_eq g1.symm)
  have hsz_b1 := Nat.le_of_eq g1.symm
  have sz_b1 : h0.size ≤ b1 := Nat.le_trans (Keep.refl h0 []).1 (Nat.le_of_eq g1.symm)
  have O1 := O0.ext E1
  have Kk1 := (Keep.refl h0 []).ext E1
  have V_b1 : Arv Z h1 b1 k1 .char (4 : Int32) [(.int (0 : Int32)), (.int (0 : Int32)), (.int (0 : Int32)), (.int (0 : Int32))] (.int (0 : Int32)) := (Arv.new A1 (by decide)).pad (pad_rep [] (.int (0 : Int32)) 4)
  refine Go.of (fun _ kz => st1 _ kz) ?_
  refine Go.of (fun _ kz => XS.dup X1.here hx rfl (hb hby d1_67) rfl rfl (XS.iconst X1.here hx rfl (hb hby d1_68) (XS.iloadN X1.here hx rfl (hb hby d1_69) rfl kz))) ?_
  obtain ⟨cl2a, Ar2a, q2a, S2a, N2a, H2a, G2a⟩ := id V_b1
  have hin2 := inb_of S2a (j := (0 : Int32)) ⟨by decide, by decide⟩
  obtain ⟨T2, h2, X2, e2, W2, st2⟩ := stC X1 hx hZ e1 Ar2a (j := (0 : Int32)) hin2 (g := (mkF m 70 #[.val (.int (4 : Int32)), .val (.int (own_ch u0)), .val (.int (own_ch u1)), .val (.int (own_ch u2)), .val (.int (own_ch u3)), .val (.int (own_ch u4))] [(.int (own_ch u0)), (.int (0 : Int32)), (.ref b1), (.ref b1)])) rfl rfl (hb hby d1_70)
  rw [own_narc u0] at W2
  have V2_b1 : Arv Z h2 b1 k1 .char (4 : Int32) [(.int (own_ch u0)), (.int (0 : Int32)), (.int (0 : Int32)), (.int (0 : Int32))] (.int (0 : Int32)) := Arv.set Ar2a q2a S2a N2a H2a G2a (own_fitc _) W2 0 rfl (Nat.le_of_ble_eq_true rfl)
  have O2 := O1.wr W2 ge_b1
  have Kk2 := Kk1.wr W2 (Or.inr sz_b1)
  have N2 := Fr.snoc X2 N0 ge_b1
  refine Go.of (fun _ kz => st2 _ kz) ?_
  refine Go.of (fun _ kz => XS.dup X2.here hx rfl (hb hby d1_71) rfl rfl (XS.iconst X2.here hx rfl (hb hby d1_72) (XS.iloadN X2.here hx rfl (hb hby d1_73) rfl kz))) ?_
  show Go _ _ _ _ _ T2 (mkF m 74 #[.val (.int (4 : Int32)), .val (.int (own_ch u0)), .val (.int (own_ch u1)), .val (.int (own_ch u2)), .val (.int (own_ch u3)), .val (.int (own_ch u4))] [(.int (own_ch u1)), (.int (1 : Int32)), (.ref b1), (.ref b1)])
  obtain ⟨cl3a, Ar3a, q3a, S3a, N3a, H3a, G3a⟩ := id V2_b1
  have hin3 := inb_of S3a (j := (1 : Int32)) ⟨by decide, by decide⟩
  obtain ⟨T3, h3, X3, e3, W3, st3⟩ := stC X2 hx hZ e2 Ar3a (j := (1 : Int32)) hin3 (g := (mkF m 74 #[.val (.int (4 : Int32)), .val (.int (own_ch u0)), .val (.int (own_ch u1)), .val (.int (own_ch u2)), .val (.int (own_ch u3)), .val (.int (own_ch u4))] [(.int (own_ch u1)), (.int (1 : Int32)), (.ref b1), (.ref b1)])) rfl rfl (hb hby d1_74)
  rw [own_narc u1] at W3
  have V3_b1 : Arv Z h3 b1 k1 .char (4 : Int32) [(.int (own_ch u0)), (.int (own_ch u1)), (.int (0 : Int32)), (.int (0 : Int32))] (.int (0 : Int32)) := Arv.set Ar3a q3a S3a N3a H3a G3a (own_fitc _) W3 1 rfl (Nat.le_of_ble_eq_true rfl)
  have O3 := O2.wr W3 ge_b1
  have Kk3 := Kk2.wr W3 (Or.inr sz_b1)
  have N3 := Fr.snoc X3 N2 ge_b1
  refine Go.of (fun _ kz => st3 _ kz) ?_
  refine Go.of (fun _ kz => XS.dup X3.here hx rfl (hb hby d1_75) rfl rfl (XS.iconst X3.here hx rfl (hb hby d1_76) (XS.iloadN X3.here hx rfl (hb hby d1_77) rfl kz))) ?_
  obtain ⟨cl4a, Ar4a, q4a, S4a, N4a, H4a, G4a⟩ := id V3_b1
  have hin4 := inb_of S4a (j := (2 : Int32)) ⟨by decide, by decide⟩
  obtain ⟨T4, h4, X4, e4, W4, st4⟩ := stC X3 hx hZ e3 Ar4a (j := (2 : Int32)) hin4 (g := (mkF m 78 #[.val (.int (4 : Int32)), .val (.int (own_ch u0)), .val (.int (own_ch u1)), .val (.int (own_ch u2)), .val (.int (own_ch u3)), .val (.int (own_ch u4))] [(.int (own_ch u2)), (.int (2 : Int32)), (.ref b1), (.ref b1)])) rfl rfl (hb hby d1_78)
  rw [own_narc u2] at W4
  have V4_b1 : Arv Z h4 b1 k1 .char (4 : Int32) [(.int (own_ch u0)), (.int (own_ch u1)), (.int (own_ch u2)), (.int (0 : Int32))] (.int (0 : Int32)) := Arv.set Ar4a q4a S4a N4a H4a G4a (own_fitc _) W4 2 rfl (Nat.le_of_ble_eq_true rfl)
  have O4 := O3.wr W4 ge_b1
  have Kk4 := Kk3.wr W4 (Or.inr sz_b1)
  have N4 := Fr.snoc X4 N3 ge_b1
  refine Go.of (fun _ kz => st4 _ kz) ?_
  refine Go.of (fun _ kz => XS.dup X4.here hx rfl (hb hby d1_79) rfl rfl (XS.iconst X4.here hx rfl (hb hby d1_80) (XS.iload X4.here hx rfl (hb hby d1_81) rfl kz))) ?_
  show Go _ _ _ _ _ T4 (mkF m 83 #[.val (.int (4 : Int32)), .val (.int (own_ch u0)), .val (.int (own_ch u1)), .val (.int (own_ch u2)), .val (.int (own_ch u3)), .val (.int (own_ch u4))] [(.int (own_ch u3)), (.int (3 : Int32)), (.ref b1), (.ref b1)])
  obtain ⟨cl5a, Ar5a, q5a, S5a, N5a, H5a, G5a⟩ := id V4_b1
  have hin5 := inb_of S5a (j := (3 : Int32)) ⟨by decide, by decide⟩
  obtain ⟨T5, h5, X5, e5, W5, st5⟩ := stC X4 hx hZ e4 Ar5a (j := (3 : Int32)) hin5 (g := (mkF m 83 #[.val (.int (4 : Int32)), .val (.int (own_ch u0)), .val (.int (own_ch u1)), .val (.int (own_ch u2)), .val (.int (own_ch u3)), .val (.int (own_ch u4))] [(.int (own_ch u3)), (.int (3 : Int32)), (.ref b1), (.ref b1)])) rfl rfl (hb hby d1_83)
  rw [own_narc u3] at W5
  have V5_b1 : Arv Z h5 b1 k1 .char (4 : Int32) [(.int (own_ch u0)), (.int (own_ch u1)), (.int (own_ch u2)), (.int (own_ch u3))] (.int (0 : Int32)) := Arv.set Ar5a q5a S5a N5a H5a G5a (own_fitc _) W5 3 rfl (Nat.le_of_ble_eq_true rfl)
  have O5 := O4.wr W5 ge_b1
  have Kk5 := Kk4.wr W5 (Or.inr sz_b1)
  have N5 := Fr.snoc X5 N4 ge_b1
  refine Go.of (fun _ kz => st5 _ kz) ?_
  refine Go.ret X5 (v := some (.ref b1)) (fun h => by rw [Bd.returns] at h; cases h) Bd.notSynchronized (fun fs hr => retOut X5 hx Bd.returns rfl (Or.inr (Or.inr (Or.inr (Or.inr ⟨rfl, rfl, rfl⟩)))) (hb hby d1_84) hr) (by decide) (by decide) ?_
  show Q_rm_mk_4 Z _ _ _ _ _ h0 n0 _ T5.heap _
  rw [e5]
  exact ⟨_, _, rfl, N5, Kk5, sz_b1, V5_b1⟩

theorem d1_85 : decode method_4_code 85 = .ok (.iconst 5, 1) := by decide +kernel
theorem d1_86 : decode method_4_code 86 = .ok (.newarray .char, 2) := by decide +kernel
theorem d1_88 : decode method_4_code 88 = .ok (.dup, 1) := by decide +kernel
theorem d1_89 : decode method_4_code 89 = .ok (.iconst 0, 1) := by decide +kernel
theorem d1_90 : decode method_4_code 90 = .ok (.iload_n 1, 1) := by decide +kernel
theorem d1_91 : decode method_4_code 91 = .ok (.castore, 1) := by decide +kernel
theorem d1_92 : decode method_4_code 92 = .ok (.dup, 1) := by decide +kernel
theorem d1_93 : decode method_4_code 93 = .ok (.iconst 1, 1) := by decide +kernel
theorem d1_94 : decode method_4_code 94 = .ok (.iload_n 2, 1) := by decide +kernel
theorem d1_95 : decode method_4_code 95 = .ok (.castore, 1) := by decide +kernel
theorem d1_96 : decode method_4_code 96 = .ok (.dup, 1) := by decide +kernel
theorem d1_97 : decode method_4_code 97 = .ok (.iconst 2, 1) := by decide +kernel
theorem d1_98 : decode method_4_code 98 = .ok (.iload_n 3, 1) := by decide +kernel
theorem d1_99 : decode method_4_code 99 = .ok (.castore, 1) := by decide +kernel
theorem d1_100 : decode method_4_code 100 = .ok (.dup, 1) := by decide +kernel
theorem d1_101 : decode method_4_code 101 = .ok (.iconst 3, 1) := by decide +kernel
theorem d1_102 : decode method_4_code 102 = .ok (.iload 4, 2) := by decide +kernel
theorem d1_104 : decode method_4_code 104 = .ok (.castore, 1) := by decide +kernel
theorem d1_105 : decode method_4_code 105 = .ok (.dup, 1) := by decide +kernel
theorem d1_106 : decode method_4_code 106 = .ok (.iconst 4, 1) := by decide +kernel
theorem d1_107 : decode method_4_code 107 = .ok (.iload 5, 2) := by decide +kernel
theorem d1_109 : decode method_4_code 109 = .ok (.castore, 1) := by decide +kernel
theorem d1_110 : decode method_4_code 110 = .ok (.areturn, 1) := by decide +kernel
theorem ef_rm_mk_5 (m : MethodId) (x0 : Int32) (x1 : Int32) (x2 : Int32) (x3 : Int32) (x4 : Int32) (x5 : Int32) : entryFrame m #[(.int x0), (.int x1), (.int x2), (.int x3), (.int x4), (.int x5)] 6 = mkF m 0 #[.val (.int x0), .val (.int x1), .val (.int x2), .val (.int x3), .val (.int x4), .val (.int x5)] [] := by first | (simp [entryFrame, mkF, argsToLocals, Value.category]; done) | rfl
def Q_rm_mk_5 (Z : State) (u0 : UInt16) (u1 : UInt16) (u2 : UInt16) (u3 : UInt16) (u4 : UInt16) (h0 : Heap) (n0 : Nat) (v : Option Value) (h : Heap) (L : List Loc) : Prop := ∃ (b : Addr) (kc : ClassId), v = some (.ref b) ∧ Fr n0 L ∧ Keep h0 h [] ∧ h0.size ≤ b ∧ Arv Z h b kc .char (5 : Int32) [(.int (own_ch u0)), (.int (own_ch u1)), (.int (own_ch u2)), (.int (own_ch u3)), (.int (own_ch u4))] (.int (0 : Int32))
set_option maxRecDepth 65536 in
set_option maxHeartbeats 40000000 in
theorem rm_mk_5 (l : Launch) (Z : State) (a0 : Array Value) (hw : ∀ d ∈ tables_1, d.before a0 Z = true) (wz : List Jvm.Cond) (u0 : UInt16) (u1 : UInt16) (u2 : UInt16) (u3 : UInt16) (u4 : UInt16) (h0 : Heap) (n0 : Nat) (O0 : Old Z n0 h0) :
    MetFree l y_25 (head1 (Jvm.Cond.code y_25 method_4_code 6 (some (.array .char)) :: wz) ({ frames := 0, cells := 1, slots := 5, locals := 0 } : Room)) (fun aZ UZ => aZ = #[(.int (5 : Int32)), (.int (own_ch u0)), (.int (own_ch u1)), (.int (own_ch u2)), (.int (own_ch u3)), (.int (own_ch u4))] ∧ Z.Warmed39 UZ.vm ∧ UZ.heap = h0) (fun _ _ _ _ _ => True) (fun _ UZ oZ UY => ∃ vZ LZ, oZ = .returned vZ ∧ Q_rm_mk_5 Z u0 u1 u2 u3 u4 h0 n0 vZ UY.heap LZ ∧ FrameEnd UZ oZ UY LZ ({ frames := 0, cells := 1, slots := 5, locals := 0 } : Room).cells ({ frames := 0, cells := 1, slots := 5, locals := 0 } : Room).slots) := by
  refine MetFree.of_bodySF (plainFor_of_name pn_1) hisR ?_
  intro p e s m args below meth c s₁ Bd hml0 hP hK
  obtain ⟨rfl, hZ, hh⟩ := hP
  have hx := Bd.exec
  have hby := Bd.bytes
  have hml : c.maxLocals = 6 := hml0
  have hown : s.vm.findClass "com/example/fulla/fulla/model/LatticeIsNamePinLaw" = some m.cls := findClass_of_methodNamed Bd.named
  have hnm := (name_of_methodNamed Bd.named Bd.method).1
  have X0 : Stand p l e ({ frames := 0, cells := 1, slots := 5, locals := 0 } : Room) s m #[(.int (5 : Int32)), (.int (own_ch u0)), (.int (own_ch u1)), (.int (own_ch u2)), (.int (own_ch u3)), (.int (own_ch u4))] below meth c s₁ [] 0 0 := Stand.of_body Bd
  have e0 : s₁.heap = h0 := by rw [← hh, Bd.state]; rfl
  have N0 := Fr.nil n0
  have Z0 : n0 ≤ h0.size := O0.1 ▸ O0.2.1
  have K0 := Keep.refl h0 []
  show Go p e below (fun oW tW LW => FrameEnd s oW tW LW ({ frames := 0, cells := 1, slots := 5, locals := 0 } : Room).cells ({ frames := 0, cells := 1, slots := 5, locals := 0 } : Room).slots) (Q_rm_mk_5 Z u0 u1 u2 u3 u4 h0 n0) s₁ (entryFrame m #[(.int (5 : Int32)), (.int (own_ch u0)), (.int (own_ch u1)), (.int (own_ch u2)), (.int (own_ch u3)), (.int (own_ch u4))] 6)
  refine Go.of (fun t kz => castTop (ef_rm_mk_5 m (5 : Int32) (own_ch u0) (own_ch u1) (own_ch u2) (own_ch u3) (own_ch u4)) kz) ?_
  show Go _ _ _ _ _ s₁ (mkF m 0 #[.val (.int (5 : Int32)), .val (.int (own_ch u0)), .val (.int (own_ch u1)), .val (.int (own_ch u2)), .val (.int (own_ch u3)), .val (.int (own_ch u4))] [])
  refine Go.of (fun _ kz => XS.iloadN X0.here hx rfl (hb hby d1_0) rfl kz) ?_
  refine Go.of (fun _ kz => XS.ifYes X0.here hx rfl (pc0 := 1) (pc' := 8) rfl (hb hby d1_1) rfl ((if0 _ _).trans (feq (by decide : ¬ (5 : Int32) = (0 : Int32))).2) (by decide) (by decide) kz) ?_
  refine Go.of (fun _ kz => XS.iloadN X0.here hx rfl (hb hby d1_8) rfl (XS.iconst X0.here hx rfl (hb hby d1_9) kz)) ?_
  refine Go.of (fun _ kz => XS.icmpYes X0.here hx rfl (pc0 := 10) (pc' := 21) rfl (hb hby d1_10) rfl (feq (by decide : ¬ (5 : Int32) = (1 : Int32))).2 (by decide) (by decide) kz) ?_
  refine Go.of (fun _ kz => XS.iloadN X0.here hx rfl (hb hby d1_21) rfl (XS.iconst X0.here hx rfl (hb hby d1_22) kz)) ?_
  show Go _ _ _ _ _ s₁ (mkF m 23 #[.val (.int (5 : Int32)), .val (.int (own_ch u0)), .val (.int (own_ch u1)), .val (.int (own_ch u2)), .val (.int (own_ch u3)), .val (.int (own_ch u4))] [(.int (2 : Int32)), (.int (5 : Int32))])
  refine Go.of (fun _ kz => XS.icmpYes X0.here hx rfl (pc0 := 23) (pc' := 38) rfl (hb hby d1_23) rfl (feq (by decide : ¬ (5 : Int32) = (2 : Int32))).2 (by decide) (by decide) kz) ?_
  refine Go.of (fun _ kz => XS.iloadN X0.here hx rfl (hb hby d1_38) rfl (XS.iconst X0.here hx rfl (hb hby d1_39) kz)) ?_
  refine Go.of (fun _ kz => XS.icmpYes X0.here hx rfl (pc0 := 40) (pc' := 59) rfl (hb hby d1_40) rfl (feq (by decide : ¬ (5 : Int32) = (3 : Int32))).2 (by decide) (by decide) kz) ?_
  refine Go.of (fun _ kz => XS.iloadN X0.here hx rfl (hb hby d1_59) rfl (XS.iconst X0.here hx rfl (hb hby d1_60) kz)) ?_
  refine Go.of (fun _ kz => XS.icmpYes X0.here hx rfl (pc0 := 61) (pc' := 85) rfl (hb hby d1_61) rfl (feq (by decide : ¬ (5 : Int32) = (4 : Int32))).2 (by decide) (by decide) kz) ?_
  show Go _ _ _ _ _ s₁ (mkF m 85 #[.val (.int (5 : Int32)), .val (.int (own_ch u0)), .val (.int (own_ch u1)), .val (.int (own_ch u2)), .val (.int (own_ch u3)), .val (.int (own_ch u4))] [])
  refine Go.of (fun _ kz => XS.iconst X0.here hx rfl (hb hby d1_85) kz) ?_
  obtain ⟨T1, h1, k1, X1, e1, E1, A1, st1⟩ := newP (aty := .char) X0 hx hZ (w9 hw) e0 (g := (mkF m 86 #[.val (.int (5 : Int32)), .val (.int (own_ch u0)), .val (.int (own_ch u1)), .val (.int (own_ch u2)), .val (.int (own_ch u3)), .val (.int (own_ch u4))] [(.int (5 : Int32))])) rfl (hb hby d1_86) rfl (by decide) (cap := 5) (by decide) (by decide) (by decide) (by decide)
  obtain ⟨b1, g1⟩ : ∃ z, z = h0.size := ⟨_, rfl⟩
  rw [← g1] at A1 st1
  have ge_b1 : n0 ≤ b1 := Nat.le_trans (O0.1 ▸ O0.2.1) (Nat.le_of_eq g1.symm)
  have hsz_b1 := Nat.le_of_eq g1.symm
  have sz_b1 : h0.size ≤ b1 := Nat.le_trans (Keep.refl h0 []).1 (Nat.le_of_eq g1.symm)
  have O1 := O0.ext E1
  have Kk1 := (Keep.refl h0 []).ext E1
  have V_b1 : Arv Z h1 b1 k1 .char (5 : Int32) [(.int (0 : Int32)), (.int (0 : Int32)), (.int (0 : Int32)), (.int (0 : Int32)), (.int (0 : Int32))] (.int (0 : Int32)) := (Arv.new A1 (by decide)).pad (pad_rep [] (.int (0 : Int32)) 5)
  refine Go.of (fun _ kz => st1 _ kz) ?_
  refine Go.of (fun _ kz => XS.dup X1.here hx rfl (hb hby d1_88) rfl rfl (XS.iconst X1.here hx rfl (hb hby d1_89) (XS.iloadN X1.here hx rfl (hb hby d1_90) rfl kz))) ?_
  obtain ⟨cl2a, Ar2a, q2a, S2a, N2a, H2a, G2a⟩ := id V_b1
  have hin2 := inb_of S2a (j := (0 : Int32)) ⟨by decide, by decide⟩
  obtain ⟨T2, h2, X2, e2, W2, st2⟩ := stC X1 hx hZ e1 Ar2a (j := (0 : Int32)) hin2 (g := (mkF m 91 #[.val (.int (5 : Int32)), .val (.int (own_ch u0)), .val (.int (own_ch u1)), .val (.int (own_ch u2)), .val (.int (own_ch u3)), .val (.int (own_ch u4))] [(.int (own_ch u0)), (.int (0 : Int32)), (.ref b1), (.ref b1)])) rfl rfl (hb hby d1_91)
  rw [own_narc u0] at W2
  have V2_b1 : Arv Z h2 b1 k1 .char (5 : Int32) [(.int (own_ch u0)), (.int (0 : Int32)), (.int (0 : Int32)), (.int (0 : Int32)), (.int (0 : Int32))] (.int (0 : Int32)) := Arv.set Ar2a q2a S2a N2a H2a G2a (own_fitc _) W2 0 rfl (Nat.le_of_ble_eq_true rfl)
  have O2 := O1.wr W2 ge_b1
  have Kk2 := Kk1.wr W2 (Or.inr sz_b1)
  have N2 := Fr.snoc X2 N0 ge_b1
  refine Go.of (fun _ kz => st2 _ kz) ?_
  refine Go.of (fun _ kz => XS.dup X2.here hx rfl (hb hby d1_92) rfl rfl (XS.iconst X2.here hx rfl (hb hby d1_93) (XS.iloadN X2.here hx rfl (hb hby d1_94) rfl kz))) ?_
  show Go _ _ _ _ _ T2 (mkF m 95 #[.val (.int (5 : Int32)), .val (.int (own_ch u0)), .val (.int (own_ch u1)), .val (.int (own_ch u2)), .val (.int (own_ch u3)), .val (.int (own_ch u4))] [(.int (own_ch u1)), (.int (1 : Int32)), (.ref b1), (.ref b1)])
  obtain ⟨cl3a, Ar3a, q3a, S3a, N3a, H3a, G3a⟩ := id V2_b1
  have hin3 := inb_of S3a (j := (1 : Int32)) ⟨by decide, by decide⟩
  obtain ⟨T3, h3, X3, e3, W3, st3⟩ := stC X2 hx hZ e2 Ar3a (j := (1 : Int32)) hin3 (g := (mkF m 95 #[.val (.int (5 : Int32)), .val (.int (own_ch u0)), .val (.int (own_ch u1)), .val (.int (own_ch u2)), .val (.int (own_ch u3)), .val (.int (own_ch u4))] [(.int (own_ch u1)), (.int (1 : Int32)), (.ref b1), (.ref b1)])) rfl rfl (hb hby d1_95)
  rw [own_narc u1] at W3
  have V3_b1 : Arv Z h3 b1 k1 .char (5 : Int32) [(.int (own_ch u0)), (.int (own_ch u1)), (.int (0 : Int32)), (.int (0 : Int32)), (.int (0 : Int32))] (.int (0 : Int32)) := Arv.set Ar3a q3a S3a N3a H3a G3a (own_fitc _) W3 1 rfl (Nat.le_of_ble_eq_true rfl)
  have O3 := O2.wr W3 ge_b1
  have Kk3 := Kk2.wr W3 (Or.inr sz_b1)
  have N3 := Fr.snoc X3 N2 ge_b1
  refine Go.of (fun _ kz => st3 _ kz) ?_
  refine Go.of (fun _ kz => XS.dup X3.here hx rfl (hb hby d1_96) rfl rfl (XS.iconst X3.here hx rfl (hb hby d1_97) (XS.iloadN X3.here hx rfl (hb hby d1_98) rfl kz))) ?_
  obtain ⟨cl4a, Ar4a, q4a, S4a, N4a, H4a, G4a⟩ := id V3_b1
  have hin4 := inb_of S4a (j := (2 : Int32)) ⟨by decide, by decide⟩
  obtain ⟨T4, h4, X4, e4, W4, st4⟩ := stC X3 hx hZ e3 Ar4a (j := (2 : Int32)) hin4 (g := (mkF m 99 #[.val (.int (5 : Int32)), .val (.int (own_ch u0)), .val (.int (own_ch u1)), .val (.int (own_ch u2)), .val (.int (own_ch u3)), .val (.int (own_ch u4))] [(.int (own_ch u2)), (.int (2 : Int32)), (.ref b1), (.ref b1)])) rfl rfl (hb hby d1_99)
  rw [own_narc u2] at W4
  have V4_b1 : Arv Z h4 b1 k1 .char (5 : Int32) [(.int (own_ch u0)), (.int (own_ch u1)), (.int (own_ch u2)), (.int (0 : Int32)), (.int (0 : Int32))] (.int (0 : Int32)) := Arv.set Ar4a q4a S4a N4a H4a G4a (own_fitc _) W4 2 rfl (Nat.le_of_ble_eq_true rfl)
  have O4 := O3.wr W4 ge_b1
  have Kk4 := Kk3.wr W4 (Or.inr sz_b1)
  have N4 := Fr.snoc X4 N3 ge_b1
  refine Go.of (fun _ kz => st4 _ kz) ?_
  refine Go.of (fun _ kz => XS.dup X4.here hx rfl (hb hby d1_100) rfl rfl (XS.iconst X4.here hx rfl (hb hby d1_101) (XS.iload X4.here hx rfl (hb hby d1_102) rfl kz))) ?_
  show Go _ _ _ _ _ T4 (mkF m 104 #[.val (.int (5 : Int32)), .val (.int (own_ch u0)), .val (.int (own_ch u1)), .val (.int (own_ch u2)), .val (.int (own_ch u3)), .val (.int (own_ch u4))] [(.int (own_ch u3)), (.int (3 : Int32)), (.ref b1), (.ref b1)])
  obtain ⟨cl5a, Ar5a, q5a, S5a, N5a, H5a, G5a⟩ := id V4_b1
  have hin5 := inb_of S5a (j := (3 : Int32)) ⟨by decide, by decide⟩
  obtain ⟨T5, h5, X5, e5, W5, st5⟩ := stC X4 hx hZ e4 Ar5a (j := (3 : Int32)) hin5 (g := (mkF m 104 #[.val (.int (5 : Int32)), .val (.int (own_ch u0)), .val (.int (own_ch u1)), .val (.int (own_ch u2)), .val (.int (own_ch u3)), .val (.int (own_ch u4))] [(.int (own_ch u3)), (.int (3 : Int32)), (.ref b1), (.ref b1)])) rfl rfl (hb hby d1_104)
  rw [own_narc u3] at W5
  have V5_b1 : Arv Z h5 b1 k1 .char (5 : Int32) [(.int (own_ch u0)), (.int (own_ch u1)), (.int (own_ch u2)), (.int (own_ch u3)), (.int (0 : Int32))] (.int (0 : Int32)) := Arv.set Ar5a q5a S5a N5a H5a G5a (own_fitc _) W5 3 rfl (Nat.le_of_ble_eq_true rfl)
  have O5 := O4.wr W5 ge_b1
  have Kk5 := Kk4.wr W5 (Or.inr sz_b1)
  have N5 := Fr.snoc X5 N4 ge_b1
  refine Go.of (fun _ kz => st5 _ kz) ?_
  refine Go.of (fun _ kz => XS.dup X5.here hx rfl (hb hby d1_105) rfl rfl (XS.iconst X5.here hx rfl (hb hby d1_106) (XS.iload X5.here hx rfl (hb hby d1_107) rfl kz))) ?_
  obtain ⟨cl6a, Ar6a, q6a, S6a, N6a, H6a, G6a⟩ := id V5_b1
  have hin6 := inb_of S6a (j := (4 : Int32)) ⟨by decide, by decide⟩
  obtain ⟨T6, h6, X6, e6, W6, st6⟩ := stC X5 hx hZ e5 Ar6a (j := (4 : Int32)) hin6 (g := (mkF m 109 #[.val (.int (5 : Int32)), .val (.int (own_ch u0)), .val (.int (own_ch u1)), .val (.int (own_ch u2)), .val (.int (own_ch u3)), .val (.int (own_ch u4))] [(.int (own_ch u4)), (.int (4 : Int32)), (.ref b1), (.ref b1)])) rfl rfl (hb hby d1_109)
  rw [own_narc u4] at W6
  have V6_b1 : Arv Z h6 b1 k1 .char (5 : Int32) [(.int (own_ch u0)), (.int (own_ch u1)), (.int (own_ch u2)), (.int (own_ch u3)), (.int (own_ch u4))] (.int (0 : Int32)) := Arv.set Ar6a q6a S6a N6a H6a G6a (own_fitc _) W6 4 rfl (Nat.le_of_ble_eq_true rfl)
  have O6 := O5.wr W6 ge_b1
  have Kk6 := Kk5.wr W6 (Or.inr sz_b1)
  have N6 := Fr.snoc X6 N5 ge_b1
  refine Go.of (fun _ kz => st6 _ kz) ?_
  refine Go.ret X6 (v := some (.ref b1)) (fun h => by rw [Bd.returns] at h; cases h) Bd.notSynchronized (fun fs hr => retOut X6 hx Bd.returns rfl (Or.inr (Or.inr (Or.inr (Or.inr ⟨rfl, rfl, rfl⟩)))) (hb hby d1_110) hr) (by decide) (by decide) ?_
  show Q_rm_mk_5 Z _ _ _ _ _ h0 n0 _ T6.heap _
  rw [e6]
  exact ⟨_, _, rfl, N6, Kk6, sz_b1, V6_b1⟩

theorem pn_0 : plainName "com/example/fulla/fulla/model/LatticeIsNamePinLaw" = true := by first | (simp [plainName, overriddenIn]; done) | decide +kernel
theorem pd_17 : parseMethodDescriptor "(ICCCCC)[C" = some ⟨[.int, .char, .char, .char, .char, .char], some (.array .char)⟩ := by decide +kernel
theorem pd_18 : parseMethodDescriptor "([C)V" = some ⟨[(.array .char)], none⟩ := by decide +kernel
theorem pd_19 : parseMethodDescriptor "(Ljava/lang/String;)Z" = some ⟨[(.object "java/lang/String")], some .boolean⟩ := by decide +kernel
theorem ef_rm0 (m : MethodId) (x0 : Int32) (x1 : Int32) (x2 : Int32) (x3 : Int32) (x4 : Int32) (x5 : Int32) : entryFrame m #[(.int x0), (.int x1), (.int x2), (.int x3), (.int x4), (.int x5)] maxLocals = mkF m 0 #[.val (.int x0), .val (.int x1), .val (.int x2), .val (.int x3), .val (.int x4), .val (.int x5), .unset, .unset, .unset, .unset, .unset, .unset, .unset, .unset] [] := by first | (simp [entryFrame, mkF, argsToLocals, Value.category, maxLocals]; done) | rfl
def Q_rm0 (Z : State) (pp : Int32) (k : Int32) (aa0 : Int32) (aa1 : Int32) (aa2 : Int32) (aa3 : Int32) (aa4 : Int32) (u0 : UInt16) (u1 : UInt16) (u2 : UInt16) (u3 : UInt16) (u4 : UInt16) (csz : Int32) (vf : Value) (h0 : Heap) (n0 : Nat) (v : Option Value) (h : Heap) (L : List Loc) : Prop := v = some (.int 1) ∧ Fr n0 L
set_option maxRecDepth 65536 in
set_option maxHeartbeats 40000000 in
theorem rm0 (l : Launch) (Z : State) (a0 : Array Value) (hw : ∀ d ∈ tables_1, d.before a0 Z = true) (wz : List Jvm.Cond) (pp : Int32) (k : Int32) (aa0 : Int32) (aa1 : Int32) (aa2 : Int32) (aa3 : Int32) (aa4 : Int32) (u0 : UInt16) (u1 : UInt16) (u2 : UInt16) (u3 : UInt16) (u4 : UInt16) (csz : Int32) (vf : Value) (h0 : Heap) (n0 : Nat) (O0 : Old Z n0 h0) (hk : ((pp &&& (2147483647 : Int32)) % (6 : Int32)) = k) (hm : k = 1 ∨ k = 2 ∨ k = 3 ∨ k = 4 ∨ k = 5) (hu0 : (aa0 &&& (65535 : Int32)).toUInt32.toUInt16 = u0) (hu1 : (aa1 &&& (65535 : Int32)).toUInt32.toUInt16 = u1) (hu2 : (aa2 &&& (65535 : Int32)).toUInt32.toUInt16 = u2) (hu3 : (aa3 &&& (65535 : Int32)).toUInt32.toUInt16 = u3) (hu4 : (aa4 &&& (65535 : Int32)).toUInt32.toUInt16 = u4) (Scs : Sta Z Z.heap "java/lang/String" "COMPACT_STRINGS" "Z" (.int csz)) (hcs : ¬ csz = (0 : Int32)) (Sf : Sta Z Z.heap "jdk/internal/util/Preconditions" "SIOOBE_FORMATTER" "Ljava/util/function/BiFunction;" vf) (hvf : vf.isRef = true) (Sas : Sta Z Z.heap "java/lang/StringUTF16" "$assertionsDisabled" "Z" (.int (1 : Int32))) (Shi : Sta Z Z.heap "java/lang/StringUTF16" "HI_BYTE_SHIFT" "I" (.int (0 : Int32))) (Slo : Sta Z Z.heap "java/lang/StringUTF16" "LO_BYTE_SHIFT" "I" (.int (8 : Int32))) :
    MetFree l x (head1 (Jvm.Cond.code x code maxLocals ret :: wz) room_1) (fun aZ UZ => aZ = #[(.int pp), (.int aa0), (.int aa1), (.int aa2), (.int aa3), (.int aa4)] ∧ Z.Warmed39 UZ.vm ∧ UZ.heap = h0) (fun _ _ _ _ _ => True) (fun _ UZ oZ UY => ∃ vZ LZ, oZ = .returned vZ ∧ Q_rm0 Z pp k aa0 aa1 aa2 aa3 aa4 u0 u1 u2 u3 u4 csz vf h0 n0 vZ UY.heap LZ ∧ FrameEnd UZ oZ UY LZ room_1.cells room_1.slots) := by
  refine MetFree.of_bodySF (plainFor_of_name pn_0) hisR ?_
  intro p e s m args below meth c s₁ Bd hml0 hP hK
  obtain ⟨rfl, hZ, hh⟩ := hP
  have hx := Bd.exec
  have hby := Bd.bytes
  have hml : c.maxLocals = 14 := hml0
  have hown : s.vm.findClass "com/example/fulla/fulla/model/LatticeIsNamePinLaw" = some m.cls := findClass_of_methodNamed Bd.named
  have hnm := (name_of_methodNamed Bd.named Bd.method).1
  have X0 : Stand p l e room_1 s m #[(.int pp), (.int aa0), (.int aa1), (.int aa2), (.int aa3), (.int aa4)] below meth c s₁ [] 0 0 := Stand.of_body Bd
  have e0 : s₁.heap = h0 := by rw [← hh, Bd.state]; rfl
  have N0 := Fr.nil n0
  have Z0 : n0 ≤ h0.size := O0.1 ▸ O0.2.1
  have K0 := Keep.refl h0 []
  show Go p e below (fun oW tW LW => FrameEnd s oW tW LW room_1.cells room_1.slots) (Q_rm0 Z pp k aa0 aa1 aa2 aa3 aa4 u0 u1 u2 u3 u4 csz vf h0 n0) s₁ (entryFrame m #[(.int pp), (.int aa0), (.int aa1), (.int aa2), (.int aa3), (.int aa4)] maxLocals)
  refine Go.of (fun t kz => castTop (ef_rm0 m pp aa0 aa1 aa2 aa3 aa4) kz) ?_
  show Go _ _ _ _ _ s₁ (mkF m 0 #[.val (.int pp), .val (.int aa0), .val (.int aa1), .val (.int aa2), .val (.int aa3), .val (.int aa4), .unset, .unset, .unset, .unset, .unset, .unset, .unset, .unset] [])
  refine Go.of (fun _ kz => XS.iloadN X0.here hx rfl (hb hby at_0) rfl (X0.ldcInt hx hown (mvT hZ (w0 hw)) (g := (mkF m 1 #[.val (.int pp), .val (.int aa0), .val (.int aa1), .val (.int aa2), .val (.int aa3), .val (.int aa4), .unset, .unset, .unset, .unset, .unset, .unset, .unset, .unset] [(.int pp)])) rfl (hb hby at_1) _ (XS.iand X0.here hx rfl (hb hby at_3) rfl (XS.bipush X0.here hx rfl (hb hby at_4) (iremM X0 hx rfl (hb hby at_6) rfl (by decide) kz))))) ?_
  show Go _ _ _ _ _ s₁ (mkF m 7 #[.val (.int pp), .val (.int aa0), .val (.int aa1), .val (.int aa2), .val (.int aa3), .val (.int aa4), .unset, .unset, .unset, .unset, .unset, .unset, .unset, .unset] [(.int ((pp &&& (2147483647 : Int32)) % (6 : Int32)))])
  rw [hk]
  show Go _ _ _ _ _ s₁ (mkF m 7 #[.val (.int pp), .val (.int aa0), .val (.int aa1), .val (.int aa2), .val (.int aa3), .val (.int aa4), .unset, .unset, .unset, .unset, .unset, .unset, .unset, .unset] [(.int k)])
  refine Go.of (fun _ kz => XS.istore X0.here hx rfl (hb hby at_7) rfl (l' := #[.val (.int pp), .val (.int aa0), .val (.int aa1), .val (.int aa2), .val (.int aa3), .val (.int aa4), .val (.int k), .unset, .unset, .unset, .unset, .unset, .unset, .unset]) rfl (XS.iloadN X0.here hx rfl (hb hby at_9) rfl (X0.ldcInt hx hown (mvT hZ (w1 hw)) (g := (mkF m 10 #[.val (.int pp), .val (.int aa0), .val (.int aa1), .val (.int aa2), .val (.int aa3), .val (.int aa4), .val (.int k), .unset, .unset, .unset, .unset, .unset, .unset, .unset] [(.int aa0)])) rfl (hb hby at_10) _ (XS.iand X0.here hx rfl (hb hby at_12) rfl (XS.i2c X0.here hx rfl (hb hby at_13) rfl kz))))) ?_
  show Go _ _ _ _ _ s₁ (mkF m 14 #[.val (.int pp), .val (.int aa0), .val (.int aa1), .val (.int aa2), .val (.int aa3), .val (.int aa4), .val (.int k), .unset, .unset, .unset, .unset, .unset, .unset, .unset] [(.int ((aa0 &&& (65535 : Int32)).toUInt32.toUInt16.toUInt32.toInt32))])
  rw [hu0]
  show Go _ _ _ _ _ s₁ (mkF m 14 #[.val (.int pp), .val (.int aa0), .val (.int aa1), .val (.int aa2), .val (.int aa3), .val (.int aa4), .val (.int k), .unset, .unset, .unset, .unset, .unset, .unset, .unset] [(.int (own_ch u0))])
  refine Go.of (fun _ kz => XS.istore X0.here hx rfl (hb hby at_14) rfl (l' := #[.val (.int pp), .val (.int aa0), .val (.int aa1), .val (.int aa2), .val (.int aa3), .val (.int aa4), .val (.int k), .val (.int (own_ch u0)), .unset, .unset, .unset, .unset, .unset, .unset]) rfl (XS.iloadN X0.here hx rfl (hb hby at_16) rfl (X0.ldcInt hx hown (mvT hZ (w1 hw)) (g := (mkF m 17 #[.val (.int pp), .val (.int aa0), .val (.int aa1), .val (.int aa2), .val (.int aa3), .val (.int aa4), .val (.int k), .val (.int (own_ch u0)), .unset, .unset, .unset, .unset, .unset, .unset] [(.int aa1)])) rfl (hb hby at_17) _ (XS.iand X0.here hx rfl (hb hby at_19) rfl (XS.i2c X0.here hx rfl (hb hby at_20) rfl kz))))) ?_
  show Go _ _ _ _ _ s₁ (mkF m 21 #[.val (.int pp), .val (.int aa0), .val (.int aa1), .val (.int aa2), .val (.int aa3), .val (.int aa4), .val (.int k), .val (.int (own_ch u0)), .unset, .unset, .unset, .unset, .unset, .unset] [(.int ((aa1 &&& (65535 : Int32)).toUInt32.toUInt16.toUInt32.toInt32))])
  rw [hu1]
  show Go _ _ _ _ _ s₁ (mkF m 21 #[.val (.int pp), .val (.int aa0), .val (.int aa1), .val (.int aa2), .val (.int aa3), .val (.int aa4), .val (.int k), .val (.int (own_ch u0)), .unset, .unset, .unset, .unset, .unset, .unset] [(.int (own_ch u1))])
  refine Go.of (fun _ kz => XS.istore X0.here hx rfl (hb hby at_21) rfl (l' := #[.val (.int pp), .val (.int aa0), .val (.int aa1), .val (.int aa2), .val (.int aa3), .val (.int aa4), .val (.int k), .val (.int (own_ch u0)), .val (.int (own_ch u1)), .unset, .unset, .unset, .unset, .unset]) rfl (XS.iloadN X0.here hx rfl (hb hby at_23) rfl (X0.ldcInt hx hown (mvT hZ (w1 hw)) (g := (mkF m 24 #[.val (.int pp), .val (.int aa0), .val (.int aa1), .val (.int aa2), .val (.int aa3), .val (.int aa4), .val (.int k), .val (.int (own_ch u0)), .val (.int (own_ch u1)), .unset, .unset, .unset, .unset, .unset] [(.int aa2)])) rfl (hb hby at_24) _ (XS.iand X0.here hx rfl (hb hby at_26) rfl (XS.i2c X0.here hx rfl (hb hby at_27) rfl kz))))) ?_
  show Go _ _ _ _ _ s₁ (mkF m 28 #[.val (.int pp), .val (.int aa0), .val (.int aa1), .val (.int aa2), .val (.int aa3), .val (.int aa4), .val (.int k), .val (.int (own_ch u0)), .val (.int (own_ch u1)), .unset, .unset, .unset, .unset, .unset] [(.int ((aa2 &&& (65535 : Int32)).toUInt32.toUInt16.toUInt32.toInt32))])
  rw [hu2]
  show Go _ _ _ _ _ s₁ (mkF m 28 #[.val (.int pp), .val (.int aa0), .val (.int aa1), .val (.int aa2), .val (.int aa3), .val (.int aa4), .val (.int k), .val (.int (own_ch u0)), .val (.int (own_ch u1)), .unset, .unset, .unset, .unset, .unset] [(.int (own_ch u2))])
  refine Go.of (fun _ kz => XS.istore X0.here hx rfl (hb hby at_28) rfl (l' := #[.val (.int pp), .val (.int aa0), .val (.int aa1), .val (.int aa2), .val (.int aa3), .val (.int aa4), .val (.int k), .val (.int (own_ch u0)), .val (.int (own_ch u1)), .val (.int (own_ch u2)), .unset, .unset, .unset, .unset]) rfl (XS.iload X0.here hx rfl (hb hby at_30) rfl (X0.ldcInt hx hown (mvT hZ (w1 hw)) (g := (mkF m 32 #[.val (.int pp), .val (.int aa0), .val (.int aa1), .val (.int aa2), .val (.int aa3), .val (.int aa4), .val (.int k), .val (.int (own_ch u0)), .val (.int (own_ch u1)), .val (.int (own_ch u2)), .unset, .unset, .unset, .unset] [(.int aa3)])) rfl (hb hby at_32) _ (XS.iand X0.here hx rfl (hb hby at_34) rfl (XS.i2c X0.here hx rfl (hb hby at_35) rfl kz))))) ?_
  show Go _ _ _ _ _ s₁ (mkF m 36 #[.val (.int pp), .val (.int aa0), .val (.int aa1), .val (.int aa2), .val (.int aa3), .val (.int aa4), .val (.int k), .val (.int (own_ch u0)), .val (.int (own_ch u1)), .val (.int (own_ch u2)), .unset, .unset, .unset, .unset] [(.int ((aa3 &&& (65535 : Int32)).toUInt32.toUInt16.toUInt32.toInt32))])
  rw [hu3]
  show Go _ _ _ _ _ s₁ (mkF m 36 #[.val (.int pp), .val (.int aa0), .val (.int aa1), .val (.int aa2), .val (.int aa3), .val (.int aa4), .val (.int k), .val (.int (own_ch u0)), .val (.int (own_ch u1)), .val (.int (own_ch u2)), .unset, .unset, .unset, .unset] [(.int (own_ch u3))])
  refine Go.of (fun _ kz => XS.istore X0.here hx rfl (hb hby at_36) rfl (l' := #[.val (.int pp), .val (.int aa0), .val (.int aa1), .val (.int aa2), .val (.int aa3), .val (.int aa4), .val (.int k), .val (.int (own_ch u0)), .val (.int (own_ch u1)), .val (.int (own_ch u2)), .val (.int (own_ch u3)), .unset, .unset, .unset]) rfl (XS.iload X0.here hx rfl (hb hby at_38) rfl (X0.ldcInt hx hown (mvT hZ (w1 hw)) (g := (mkF m 40 #[.val (.int pp), .val (.int aa0), .val (.int aa1), .val (.int aa2), .val (.int aa3), .val (.int aa4), .val (.int k), .val (.int (own_ch u0)), .val (.int (own_ch u1)), .val (.int (own_ch u2)), .val (.int (own_ch u3)), .unset, .unset, .unset] [(.int aa4)])) rfl (hb hby at_40) _ (XS.iand X0.here hx rfl (hb hby at_42) rfl (XS.i2c X0.here hx rfl (hb hby at_43) rfl kz))))) ?_
  show Go _ _ _ _ _ s₁ (mkF m 44 #[.val (.int pp), .val (.int aa0), .val (.int aa1), .val (.int aa2), .val (.int aa3), .val (.int aa4), .val (.int k), .val (.int (own_ch u0)), .val (.int (own_ch u1)), .val (.int (own_ch u2)), .val (.int (own_ch u3)), .unset, .unset, .unset] [(.int ((aa4 &&& (65535 : Int32)).toUInt32.toUInt16.toUInt32.toInt32))])
  rw [hu4]
  show Go _ _ _ _ _ s₁ (mkF m 44 #[.val (.int pp), .val (.int aa0), .val (.int aa1), .val (.int aa2), .val (.int aa3), .val (.int aa4), .val (.int k), .val (.int (own_ch u0)), .val (.int (own_ch u1)), .val (.int (own_ch u2)), .val (.int (own_ch u3)), .unset, .unset, .unset] [(.int (own_ch u4))])
  refine Go.of (fun _ kz => XS.istore X0.here hx rfl (hb hby at_44) rfl (l' := #[.val (.int pp), .val (.int aa0), .val (.int aa1), .val (.int aa2), .val (.int aa3), .val (.int aa4), .val (.int k), .val (.int (own_ch u0)), .val (.int (own_ch u1)), .val (.int (own_ch u2)), .val (.int (own_ch u3)), .val (.int (own_ch u4)), .unset, .unset]) rfl kz) ?_
  obtain ⟨T1, h1, X1, e1, E1, A1, D1, -, st1⟩ := newO X0 hx hZ hown (w2 hw) (w3 hw) (w4 hw) e0 (g := (mkF m 46 #[.val (.int pp), .val (.int aa0), .val (.int aa1), .val (.int aa2), .val (.int aa3), .val (.int aa4), .val (.int k), .val (.int (own_ch u0)), .val (.int (own_ch u1)), .val (.int (own_ch u2)), .val (.int (own_ch u3)), .val (.int (own_ch u4)), .unset, .unset] [])) rfl (hb hby at_46) (by decide) (by decide)
  obtain ⟨b1, g1⟩ : ∃ z, z = h0.size := ⟨_, rfl⟩
  rw [← g1] at A1 D1 st1
  have ge_b1 : n0 ≤ b1 := Nat.le_trans (O0.1 ▸ O0.2.1) (Nat.le_of_eq g1.symm)
  have hsz_b1 := Nat.le_of_eq g1.symm
  have O1 := O0.ext E1
  have F1_value : Fld Z h1 b1 "java/lang/String" "value" "[B" .null := D1 (Or.inr (w22 hw)) (ty := (.array .byte)) (by decide)
  have F1_coder : Fld Z h1 b1 "java/lang/String" "coder" "B" (.int (0 : Int32)) := D1 (Or.inr (w23 hw)) (ty := .byte) (by decide)
  refine Go.of (fun _ kz => st1 _ kz) ?_
  refine Go.of (fun _ kz => XS.dup X1.here hx rfl (hb hby at_49) rfl rfl (XS.iload X1.here hx rfl (hb hby at_50) rfl (XS.iload X1.here hx rfl (hb hby at_52) rfl (XS.iload X1.here hx rfl (hb hby at_54) rfl (XS.iload X1.here hx rfl (hb hby at_56) rfl (XS.iload X1.here hx rfl (hb hby at_58) rfl (XS.iload X1.here hx rfl (hb hby at_60) rfl kz))))))) ?_
  show Go _ _ _ _ _ T1 (mkF m 62 #[.val (.int pp), .val (.int aa0), .val (.int aa1), .val (.int aa2), .val (.int aa3), .val (.int aa4), .val (.int k), .val (.int (own_ch u0)), .val (.int (own_ch u1)), .val (.int (own_ch u2)), .val (.int (own_ch u3)), .val (.int (own_ch u4)), .unset, .unset] [(.int (own_ch u4)), (.int (own_ch u3)), (.int (own_ch u2)), (.int (own_ch u1)), (.int (own_ch u0)), (.int k), (.ref b1), (.ref b1)])
  rcases hm with rfl | rfl | rfl | rfl | rfl
  · show Go _ _ _ _ _ T1 (mkF m 62 #[.val (.int pp), .val (.int aa0), .val (.int aa1), .val (.int aa2), .val (.int aa3), .val (.int aa4), .val (.int (1 : Int32)), .val (.int (own_ch u0)), .val (.int (own_ch u1)), .val (.int (own_ch u2)), .val (.int (own_ch u3)), .val (.int (own_ch u4)), .unset, .unset] [(.int (own_ch u4)), (.int (own_ch u3)), (.int (own_ch u2)), (.int (own_ch u1)), (.int (own_ch u0)), (.int (1 : Int32)), (.ref b1), (.ref b1)])
    refine Go.callS X1 hx hZ hown (y := y_25) (w5 hw) (w6 hw) (w7 hw) (w8 hw) (by decide) (rm_mk_1 l Z a0 hw [] u0 u1 u2 u3 u4 h1 n0 O1) e1 2 (by decide) (by decide) (by rw [hml]; rfl) (argsL := [(.int (1 : Int32)), (.int (own_ch u0)), (.int (own_ch u1)), (.int (own_ch u2)), (.int (own_ch u3)), (.int (own_ch u4))]) (rest := [(.ref b1), (.ref b1)]) (lenOf pd_17 rfl) rfl rfl (Nat.le_of_eq rfl) (hb hby at_62) (c2 := 2) (s2 := 5) rfl rfl (by decide) (by decide) fun v2 T2 Lc2 L2 X2 l2 hQ2 => ?_
    obtain ⟨b2, kc2, rfl, N2q, K2, hsz2, V2⟩ := hQ2
    have N2 : Fr n0 L2 := by rw [l2]; exact Fr.app N0 N2q
    have ge_b2 : n0 ≤ b2 := Nat.le_trans (O1.1 ▸ O1.2.1) hsz2
    have ne_b2 : b2 ≠ b1 := fun q => Nat.ne_of_lt (Nat.lt_of_lt_of_le A1.lt hsz2) q.symm
    have f2_Exa_b1 := A1.keep K2
    have f2_Fld_b1_value := F1_value.keep K2 nin0
    have f2_Fld_b1_coder := F1_coder.keep K2 nin0
    have O2 := O1.keep K2 all0
    show Go _ _ _ _ _ T2 (mkF m 65 #[.val (.int pp), .val (.int aa0), .val (.int aa1), .val (.int aa2), .val (.int aa3), .val (.int aa4), .val (.int (1 : Int32)), .val (.int (own_ch u0)), .val (.int (own_ch u1)), .val (.int (own_ch u2)), .val (.int (own_ch u3)), .val (.int (own_ch u4)), .unset, .unset] [(.ref b2), (.ref b1), (.ref b1)])
    refine Go.callI X2 hx hZ hown (y := y_20) rfl (w10 hw) (w11 hw) (w4 hw) (w12 hw) (by decide) (a := b1) (rm_in1_1 l Z a0 hw [] b1 b2 kc2 u0 csz T2.heap n0 O2 f2_Exa_b1 f2_Fld_b1_value f2_Fld_b1_coder ge_b1 ne_b2 V2 Sas Shi Slo Scs hcs) rfl 1 (by decide) (by decide) (by rw [hml]; rfl) (argsL := [(.ref b2)]) (rest := [(.ref b1)]) (lenOf pd_18 rfl) rfl rfl (Nat.le_of_eq rfl) (hb hby at_65) (c2 := 4) (s2 := 8) rfl rfl (by decide) (by decide) fun v3 T3 Lc3 L3 X3 l3 hQ3 => ?_
    obtain ⟨rfl, N3q, K3, Es3, sb3, skb3, scd3, szz3, svs3, Fv3, Fc3, Vs3, hb83, hD3⟩ := hQ3
    have N3 : Fr n0 L3 := by rw [l3]; exact Fr.app N2 N3q
    have f3_Exa_b1 := f2_Exa_b1.keep K3
    have f3_Arv_b2 := V2.keep K3 (ninS ne_b2 nin0)
    have O3 := O2.keep K3 (allS ge_b1 all0)
    refine Go.of (fun _ kz => XS.astore X3.here hx rfl (hb hby at_68) rfl rfl (l' := #[.val (.int pp), .val (.int aa0), .val (.int aa1), .val (.int aa2), .val (.int aa3), .val (.int aa4), .val (.int (1 : Int32)), .val (.int (own_ch u0)), .val (.int (own_ch u1)), .val (.int (own_ch u2)), .val (.int (own_ch u3)), .val (.int (own_ch u4)), .val (.ref b1), .unset]) rfl (XS.iload X3.here hx rfl (hb hby at_70) rfl (XS.iconst X3.here hx rfl (hb hby at_72) kz))) ?_
    refine Go.of (fun _ kz => XS.icmpNo X3.here hx rfl (hb hby at_73) rfl (flt (by decide : ¬ (1 : Int32) < (1 : Int32))).1 kz) ?_
    refine Go.of (fun _ kz => XS.iload X3.here hx rfl (hb hby at_76) rfl kz) ?_
    show Go _ _ _ _ _ T3 (mkF m 78 #[.val (.int pp), .val (.int aa0), .val (.int aa1), .val (.int aa2), .val (.int aa3), .val (.int aa4), .val (.int (1 : Int32)), .val (.int (own_ch u0)), .val (.int (own_ch u1)), .val (.int (own_ch u2)), .val (.int (own_ch u3)), .val (.int (own_ch u4)), .val (.ref b1), .unset] [(.int (own_ch u0))])
    refine Go.callS X3 hx hZ hown (y := y_22) (w48 hw) (w49 hw) (w7 hw) (w50 hw) (by decide) (rm_ltt l Z a0 hw [] (own_ch u0) T3.heap n0 O3) rfl 0 (by decide) (by decide) (by rw [hml]; rfl) (argsL := [(.int (own_ch u0))]) (rest := []) (lenOf pd_14 rfl) rfl rfl (Nat.le_of_eq rfl) (hb hby at_78) (c2 := 4) (s2 := 8) rfl rfl (by decide) (by decide) fun v4 T4 Lc4 L4 X4 l4 hQ4 => ?_
    obtain ⟨rfl, N4q, e4⟩ := hQ4
    have N4 : Fr n0 L4 := by rw [l4]; exact Fr.app N3 N4q
    by_cases hc81_5 : (own_let (own_ch u0)) = (0 : Int32)
    · refine Go.of (fun _ kz => XS.ifYes X4.here hx rfl (pc0 := 81) (pc' := 144) rfl (hb hby at_81) rfl ((if0 _ _).trans (teq hc81_5).1) (by decide) (by decide) kz) ?_
      refine Go.of (fun _ kz => XS.iconst X4.here hx rfl (hb hby at_144) (XS.istore X4.here hx rfl (hb hby at_145) rfl (l' := #[.val (.int pp), .val (.int aa0), .val (.int aa1), .val (.int aa2), .val (.int aa3), .val (.int aa4), .val (.int (1 : Int32)), .val (.int (own_ch u0)), .val (.int (own_ch u1)), .val (.int (own_ch u2)), .val (.int (own_ch u3)), .val (.int (own_ch u4)), .val (.ref b1), .val (.int (0 : Int32))]) rfl (XS.aload X4.here hx rfl (hb hby at_147) rfl rfl kz))) ?_
      show Go _ _ _ _ _ T4 (mkF m 149 #[.val (.int pp), .val (.int aa0), .val (.int aa1), .val (.int aa2), .val (.int aa3), .val (.int aa4), .val (.int (1 : Int32)), .val (.int (own_ch u0)), .val (.int (own_ch u1)), .val (.int (own_ch u2)), .val (.int (own_ch u3)), .val (.int (own_ch u4)), .val (.ref b1), .val (.int (0 : Int32))] [(.ref b1)])
      refine Go.callS X4 hx hZ hown (y := y_24) (w28 hw) (w29 hw) (w30 hw) (w31 hw) (by decide) (rm_nm_1 l Z a0 hw [] b1 sb3 skb3 scd3 szz3 svs3 u0 0 csz vf T3.heap n0 O3 Es3 Fc3 Fv3 Vs3 Scs hcs Sf hvf Sas Shi Slo hb83 hD3 (by simp [own_nm, own_all, hc81_5])) e4 0 (by decide) (by decide) (by rw [hml]; rfl) (argsL := [(.ref b1)]) (rest := []) (lenOf pd_19 rfl) rfl rfl (Nat.le_of_eq rfl) (hb hby at_149) (c2 := 4) (s2 := 8) rfl rfl (by decide) (by decide) fun v6 T6 Lc6 L6 X6 l6 hQ6 => ?_
      obtain ⟨rfl, N6q, e6⟩ := hQ6
      have N6 : Fr n0 L6 := by rw [l6]; exact Fr.app N4 N6q
      refine Go.of (fun _ kz => XS.iload X6.here hx rfl (hb hby at_152) rfl kz) ?_
      refine Go.of (fun _ kz => XS.icmpNo X6.here hx rfl (hb hby at_154) rfl (teq (by decide : (0 : Int32) = (0 : Int32))).2 kz) ?_
      refine Go.of (fun _ kz => XS.iconst X6.here hx rfl (hb hby at_157) (XS.goto X6.here hx rfl (pc0 := 158) (pc' := 162) rfl (hb hby at_158) (by decide) (by decide) kz)) ?_
      refine Go.ret X6 (v := some (.int (1 : Int32))) (fun h => by rw [Bd.returns] at h; cases h) Bd.notSynchronized (fun fs hr => retN X6 hx (t := .boolean) Bd.returns (by simp) (hb hby at_162) hr) (by decide) (by decide) ?_
      show Q_rm0 Z _ _ _ _ _ _ _ _ _ _ _ _ _ _ h0 n0 _ T6.heap _
      rw [e6]
      exact ⟨rfl, N6⟩
    · refine Go.of (fun _ kz => XS.ifNo X4.here hx rfl (hb hby at_81) rfl ((if0 _ _).trans (feq hc81_5).1) kz) ?_
      refine Go.of (fun _ kz => XS.iload X4.here hx rfl (hb hby at_84) rfl (XS.iconst X4.here hx rfl (hb hby at_86) kz)) ?_
      refine Go.of (fun _ kz => XS.icmpYes X4.here hx rfl (pc0 := 87) (pc' := 98) rfl (hb hby at_87) rfl (tlt (by decide : (1 : Int32) < (2 : Int32))).1 (by decide) (by decide) kz) ?_
      refine Go.of (fun _ kz => XS.iload X4.here hx rfl (hb hby at_98) rfl (XS.iconst X4.here hx rfl (hb hby at_100) kz)) ?_
      show Go _ _ _ _ _ T4 (mkF m 101 #[.val (.int pp), .val (.int aa0), .val (.int aa1), .val (.int aa2), .val (.int aa3), .val (.int aa4), .val (.int (1 : Int32)), .val (.int (own_ch u0)), .val (.int (own_ch u1)), .val (.int (own_ch u2)), .val (.int (own_ch u3)), .val (.int (own_ch u4)), .val (.ref b1), .unset] [(.int (3 : Int32)), (.int (1 : Int32))])
      refine Go.of (fun _ kz => XS.icmpYes X4.here hx rfl (pc0 := 101) (pc' := 112) rfl (hb hby at_101) rfl (tlt (by decide : (1 : Int32) < (3 : Int32))).1 (by decide) (by decide) kz) ?_
      refine Go.of (fun _ kz => XS.iload X4.here hx rfl (hb hby at_112) rfl (XS.iconst X4.here hx rfl (hb hby at_114) kz)) ?_
      refine Go.of (fun _ kz => XS.icmpYes X4.here hx rfl (pc0 := 115) (pc' := 126) rfl (hb hby at_115) rfl (tlt (by decide : (1 : Int32) < (4 : Int32))).1 (by decide) (by decide) kz) ?_
      refine Go.of (fun _ kz => XS.iload X4.here hx rfl (hb hby at_126) rfl (XS.iconst X4.here hx rfl (hb hby at_128) kz)) ?_
      refine Go.of (fun _ kz => XS.icmpYes X4.here hx rfl (pc0 := 129) (pc' := 140) rfl (hb hby at_129) rfl (tlt (by decide : (1 : Int32) < (5 : Int32))).1 (by decide) (by decide) kz) ?_
      show Go _ _ _ _ _ T4 (mkF m 140 #[.val (.int pp), .val (.int aa0), .val (.int aa1), .val (.int aa2), .val (.int aa3), .val (.int aa4), .val (.int (1 : Int32)), .val (.int (own_ch u0)), .val (.int (own_ch u1)), .val (.int (own_ch u2)), .val (.int (own_ch u3)), .val (.int (own_ch u4)), .val (.ref b1), .unset] [])
      refine Go.of (fun _ kz => XS.iconst X4.here hx rfl (hb hby at_140) (XS.goto X4.here hx rfl (pc0 := 141) (pc' := 145) rfl (hb hby at_141) (by decide) (by decide) (XS.istore X4.here hx rfl (hb hby at_145) rfl (l' := #[.val (.int pp), .val (.int aa0), .val (.int aa1), .val (.int aa2), .val (.int aa3), .val (.int aa4), .val (.int (1 : Int32)), .val (.int (own_ch u0)), .val (.int (own_ch u1)), .val (.int (own_ch u2)), .val (.int (own_ch u3)), .val (.int (own_ch u4)), .val (.ref b1), .val (.int (1 : Int32))]) rfl (XS.aload X4.here hx rfl (hb hby at_147) rfl rfl kz)))) ?_
      show Go _ _ _ _ _ T4 (mkF m 149 #[.val (.int pp), .val (.int aa0), .val (.int aa1), .val (.int aa2), .val (.int aa3), .val (.int aa4), .val (.int (1 : Int32)), .val (.int (own_ch u0)), .val (.int (own_ch u1)), .val (.int (own_ch u2)), .val (.int (own_ch u3)), .val (.int (own_ch u4)), .val (.ref b1), .val (.int (1 : Int32))] [(.ref b1)])
      refine Go.callS X4 hx hZ hown (y := y_24) (w28 hw) (w29 hw) (w30 hw) (w31 hw) (by decide) (rm_nm_1 l Z a0 hw [] b1 sb3 skb3 scd3 szz3 svs3 u0 1 csz vf T3.heap n0 O3 Es3 Fc3 Fv3 Vs3 Scs hcs Sf hvf Sas Shi Slo hb83 hD3 (by simp [own_nm, own_all, hc81_5])) e4 0 (by decide) (by decide) (by rw [hml]; rfl) (argsL := [(.ref b1)]) (rest := []) (lenOf pd_19 rfl) rfl rfl (Nat.le_of_eq rfl) (hb hby at_149) (c2 := 4) (s2 := 8) rfl rfl (by decide) (by decide) fun v7 T7 Lc7 L7 X7 l7 hQ7 => ?_
      obtain ⟨rfl, N7q, e7⟩ := hQ7
      have N7 : Fr n0 L7 := by rw [l7]; exact Fr.app N4 N7q
      refine Go.of (fun _ kz => XS.iload X7.here hx rfl (hb hby at_152) rfl kz) ?_
      refine Go.of (fun _ kz => XS.icmpNo X7.here hx rfl (hb hby at_154) rfl (teq (by decide : (1 : Int32) = (1 : Int32))).2 kz) ?_
      refine Go.of (fun _ kz => XS.iconst X7.here hx rfl (hb hby at_157) (XS.goto X7.here hx rfl (pc0 := 158) (pc' := 162) rfl (hb hby at_158) (by decide) (by decide) kz)) ?_
      refine Go.ret X7 (v := some (.int (1 : Int32))) (fun h => by rw [Bd.returns] at h; cases h) Bd.notSynchronized (fun fs hr => retN X7 hx (t := .boolean) Bd.returns (by simp) (hb hby at_162) hr) (by decide) (by decide) ?_
      show Q_rm0 Z _ _ _ _ _ _ _ _ _ _ _ _ _ _ h0 n0 _ T7.heap _
      rw [e7]
      exact ⟨rfl, N7⟩
  · show Go _ _ _ _ _ T1 (mkF m 62 #[.val (.int pp), .val (.int aa0), .val (.int aa1), .val (.int aa2), .val (.int aa3), .val (.int aa4), .val (.int (2 : Int32)), .val (.int (own_ch u0)), .val (.int (own_ch u1)), .val (.int (own_ch u2)), .val (.int (own_ch u3)), .val (.int (own_ch u4)), .unset, .unset] [(.int (own_ch u4)), (.int (own_ch u3)), (.int (own_ch u2)), (.int (own_ch u1)), (.int (own_ch u0)), (.int (2 : Int32)), (.ref b1), (.ref b1)])
    refine Go.callS X1 hx hZ hown (y := y_25) (w5 hw) (w6 hw) (w7 hw) (w8 hw) (by decide) (rm_mk_2 l Z a0 hw [] u0 u1 u2 u3 u4 h1 n0 O1) e1 2 (by decide) (by decide) (by rw [hml]; rfl) (argsL := [(.int (2 : Int32)), (.int (own_ch u0)), (.int (own_ch u1)), (.int (own_ch u2)), (.int (own_ch u3)), (.int (own_ch u4))]) (rest := [(.ref b1), (.ref b1)]) (lenOf pd_17 rfl) rfl rfl (Nat.le_of_eq rfl) (hb hby at_62) (c2 := 2) (s2 := 6) rfl rfl (by decide) (by decide) fun v8 T8 Lc8 L8 X8 l8 hQ8 => ?_
    obtain ⟨b8, kc8, rfl, N8q, K8, hsz8, V8⟩ := hQ8
    have N8 : Fr n0 L8 := by rw [l8]; exact Fr.app N0 N8q
    have ge_b8 : n0 ≤ b8 := Nat.le_trans (O1.1 ▸ O1.2.1) hsz8
    have ne_b8 : b8 ≠ b1 := fun q => Nat.ne_of_lt (Nat.lt_of_lt_of_le A1.lt hsz8) q.symm
    have f8_Exa_b1 := A1.keep K8
    have f8_Fld_b1_value := F1_value.keep K8 nin0
    have f8_Fld_b1_coder := F1_coder.keep K8 nin0
    have O8 := O1.keep K8 all0
    show Go _ _ _ _ _ T8 (mkF m 65 #[.val (.int pp), .val (.int aa0), .val (.int aa1), .val (.int aa2), .val (.int aa3), .val (.int aa4), .val (.int (2 : Int32)), .val (.int (own_ch u0)), .val (.int (own_ch u1)), .val (.int (own_ch u2)), .val (.int (own_ch u3)), .val (.int (own_ch u4)), .unset, .unset] [(.ref b8), (.ref b1), (.ref b1)])
    refine Go.callI X8 hx hZ hown (y := y_20) rfl (w10 hw) (w11 hw) (w4 hw) (w12 hw) (by decide) (a := b1) (rm_in1_2 l Z a0 hw [] b1 b8 kc8 u0 u1 csz T8.heap n0 O8 f8_Exa_b1 f8_Fld_b1_value f8_Fld_b1_coder ge_b1 ne_b8 V8 Sas Shi Slo Scs hcs) rfl 1 (by decide) (by decide) (by rw [hml]; rfl) (argsL := [(.ref b8)]) (rest := [(.ref b1)]) (lenOf pd_18 rfl) rfl rfl (Nat.le_of_eq rfl) (hb hby at_65) (c2 := 4) (s2 := 12) rfl rfl (by decide) (by decide) fun v9 T9 Lc9 L9 X9 l9 hQ9 => ?_
    obtain ⟨rfl, N9q, K9, Es9, sb9, skb9, scd9, szz9, svs9, Fv9, Fc9, Vs9, hb89, hD9⟩ := hQ9
    have N9 : Fr n0 L9 := by rw [l9]; exact Fr.app N8 N9q
    have f9_Exa_b1 := f8_Exa_b1.keep K9
    have f9_Arv_b8 := V8.keep K9 (ninS ne_b8 nin0)
    have O9 := O8.keep K9 (allS ge_b1 all0)
    refine Go.of (fun _ kz => XS.astore X9.here hx rfl (hb hby at_68) rfl rfl (l' := #[.val (.int pp), .val (.int aa0), .val (.int aa1), .val (.int aa2), .val (.int aa3), .val (.int aa4), .val (.int (2 : Int32)), .val (.int (own_ch u0)), .val (.int (own_ch u1)), .val (.int (own_ch u2)), .val (.int (own_ch u3)), .val (.int (own_ch u4)), .val (.ref b1), .unset]) rfl (XS.iload X9.here hx rfl (hb hby at_70) rfl (XS.iconst X9.here hx rfl (hb hby at_72) kz))) ?_
    refine Go.of (fun _ kz => XS.icmpNo X9.here hx rfl (hb hby at_73) rfl (flt (by decide : ¬ (2 : Int32) < (1 : Int32))).1 kz) ?_
    refine Go.of (fun _ kz => XS.iload X9.here hx rfl (hb hby at_76) rfl kz) ?_
    show Go _ _ _ _ _ T9 (mkF m 78 #[.val (.int pp), .val (.int aa0), .val (.int aa1), .val (.int aa2), .val (.int aa3), .val (.int aa4), .val (.int (2 : Int32)), .val (.int (own_ch u0)), .val (.int (own_ch u1)), .val (.int (own_ch u2)), .val (.int (own_ch u3)), .val (.int (own_ch u4)), .val (.ref b1), .unset] [(.int (own_ch u0))])
    refine Go.callS X9 hx hZ hown (y := y_22) (w48 hw) (w49 hw) (w7 hw) (w50 hw) (by decide) (rm_ltt l Z a0 hw [] (own_ch u0) T9.heap n0 O9) rfl 0 (by decide) (by decide) (by rw [hml]; rfl) (argsL := [(.int (own_ch u0))]) (rest := []) (lenOf pd_14 rfl) rfl rfl (Nat.le_of_eq rfl) (hb hby at_78) (c2 := 4) (s2 := 12) rfl rfl (by decide) (by decide) fun v10 T10 Lc10 L10 X10 l10 hQ10 => ?_
    obtain ⟨rfl, N10q, e10⟩ := hQ10
    have N10 : Fr n0 L10 := by rw [l10]; exact Fr.app N9 N10q
    by_cases hc81_11 : (own_let (own_ch u0)) = (0 : Int32)
    · refine Go.of (fun _ kz => XS.ifYes X10.here hx rfl (pc0 := 81) (pc' := 144) rfl (hb hby at_81) rfl ((if0 _ _).trans (teq hc81_11).1) (by decide) (by decide) kz) ?_
      refine Go.of (fun _ kz => XS.iconst X10.here hx rfl (hb hby at_144) (XS.istore X10.here hx rfl (hb hby at_145) rfl (l' := #[.val (.int pp), .val (.int aa0), .val (.int aa1), .val (.int aa2), .val (.int aa3), .val (.int aa4), .val (.int (2 : Int32)), .val (.int (own_ch u0)), .val (.int (own_ch u1)), .val (.int (own_ch u2)), .val (.int (own_ch u3)), .val (.int (own_ch u4)), .val (.ref b1), .val (.int (0 : Int32))]) rfl (XS.aload X10.here hx rfl (hb hby at_147) rfl rfl kz))) ?_
      show Go _ _ _ _ _ T10 (mkF m 149 #[.val (.int pp), .val (.int aa0), .val (.int aa1), .val (.int aa2), .val (.int aa3), .val (.int aa4), .val (.int (2 : Int32)), .val (.int (own_ch u0)), .val (.int (own_ch u1)), .val (.int (own_ch u2)), .val (.int (own_ch u3)), .val (.int (own_ch u4)), .val (.ref b1), .val (.int (0 : Int32))] [(.ref b1)])
      refine Go.callS X10 hx hZ hown (y := y_24) (w28 hw) (w29 hw) (w30 hw) (w31 hw) (by decide) (rm_nm_2 l Z a0 hw [] b1 sb9 skb9 scd9 szz9 svs9 u0 u1 0 csz vf T9.heap n0 O9 Es9 Fc9 Fv9 Vs9 Scs hcs Sf hvf Sas Shi Slo hb89 hD9 (by simp [own_nm, own_all, hc81_11])) e10 0 (by decide) (by decide) (by rw [hml]; rfl) (argsL := [(.ref b1)]) (rest := []) (lenOf pd_19 rfl) rfl rfl (Nat.le_of_eq rfl) (hb hby at_149) (c2 := 4) (s2 := 12) rfl rfl (by decide) (by decide) fun v12 T12 Lc12 L12 X12 l12 hQ12 => ?_
      obtain ⟨rfl, N12q, e12⟩ := hQ12
      have N12 : Fr n0 L12 := by rw [l12]; exact Fr.app N10 N12q
      refine Go.of (fun _ kz => XS.iload X12.here hx rfl (hb hby at_152) rfl kz) ?_
      refine Go.of (fun _ kz => XS.icmpNo X12.here hx rfl (hb hby at_154) rfl (teq (by decide : (0 : Int32) = (0 : Int32))).2 kz) ?_
      refine Go.of (fun _ kz => XS.iconst X12.here hx rfl (hb hby at_157) (XS.goto X12.here hx rfl (pc0 := 158) (pc' := 162) rfl (hb hby at_158) (by decide) (by decide) kz)) ?_
      refine Go.ret X12 (v := some (.int (1 : Int32))) (fun h => by rw [Bd.returns] at h; cases h) Bd.notSynchronized (fun fs hr => retN X12 hx (t := .boolean) Bd.returns (by simp) (hb hby at_162) hr) (by decide) (by decide) ?_
      show Q_rm0 Z _ _ _ _ _ _ _ _ _ _ _ _ _ _ h0 n0 _ T12.heap _
      rw [e12]
      exact ⟨rfl, N12⟩
    · refine Go.of (fun _ kz => XS.ifNo X10.here hx rfl (hb hby at_81) rfl ((if0 _ _).trans (feq hc81_11).1) kz) ?_
      refine Go.of (fun _ kz => XS.iload X10.here hx rfl (hb hby at_84) rfl (XS.iconst X10.here hx rfl (hb hby at_86) kz)) ?_
      refine Go.of (fun _ kz => XS.icmpNo X10.here hx rfl (hb hby at_87) rfl (flt (by decide : ¬ (2 : Int32) < (2 : Int32))).1 kz) ?_
      refine Go.of (fun _ kz => XS.iload X10.here hx rfl (hb hby at_90) rfl kz) ?_
      show Go _ _ _ _ _ T10 (mkF m 92 #[.val (.int pp), .val (.int aa0), .val (.int aa1), .val (.int aa2), .val (.int aa3), .val (.int aa4), .val (.int (2 : Int32)), .val (.int (own_ch u0)), .val (.int (own_ch u1)), .val (.int (own_ch u2)), .val (.int (own_ch u3)), .val (.int (own_ch u4)), .val (.ref b1), .unset] [(.int (own_ch u1))])
      refine Go.callS X10 hx hZ hown (y := y_23) (w115 hw) (w116 hw) (w7 hw) (w117 hw) (by decide) (rm_lat l Z a0 hw [] (own_ch u1) T9.heap n0 O9) e10 0 (by decide) (by decide) (by rw [hml]; rfl) (argsL := [(.int (own_ch u1))]) (rest := []) (lenOf pd_14 rfl) rfl rfl (Nat.le_of_eq rfl) (hb hby at_92) (c2 := 4) (s2 := 12) rfl rfl (by decide) (by decide) fun v13 T13 Lc13 L13 X13 l13 hQ13 => ?_
      obtain ⟨rfl, N13q, e13⟩ := hQ13
      have N13 : Fr n0 L13 := by rw [l13]; exact Fr.app N10 N13q
      by_cases hc95_14 : (own_ltr (own_ch u1)) = (0 : Int32)
      · refine Go.of (fun _ kz => XS.ifYes X13.here hx rfl (pc0 := 95) (pc' := 144) rfl (hb hby at_95) rfl ((if0 _ _).trans (teq hc95_14).1) (by decide) (by decide) kz) ?_
        refine Go.of (fun _ kz => XS.iconst X13.here hx rfl (hb hby at_144) (XS.istore X13.here hx rfl (hb hby at_145) rfl (l' := #[.val (.int pp), .val (.int aa0), .val (.int aa1), .val (.int aa2), .val (.int aa3), .val (.int aa4), .val (.int (2 : Int32)), .val (.int (own_ch u0)), .val (.int (own_ch u1)), .val (.int (own_ch u2)), .val (.int (own_ch u3)), .val (.int (own_ch u4)), .val (.ref b1), .val (.int (0 : Int32))]) rfl (XS.aload X13.here hx rfl (hb hby at_147) rfl rfl kz))) ?_
        show Go _ _ _ _ _ T13 (mkF m 149 #[.val (.int pp), .val (.int aa0), .val (.int aa1), .val (.int aa2), .val (.int aa3), .val (.int aa4), .val (.int (2 : Int32)), .val (.int (own_ch u0)), .val (.int (own_ch u1)), .val (.int (own_ch u2)), .val (.int (own_ch u3)), .val (.int (own_ch u4)), .val (.ref b1), .val (.int (0 : Int32))] [(.ref b1)])
        refine Go.callS X13 hx hZ hown (y := y_24) (w28 hw) (w29 hw) (w30 hw) (w31 hw) (by decide) (rm_nm_2 l Z a0 hw [] b1 sb9 skb9 scd9 szz9 svs9 u0 u1 0 csz vf T9.heap n0 O9 Es9 Fc9 Fv9 Vs9 Scs hcs Sf hvf Sas Shi Slo hb89 hD9 (by simp [own_nm, own_all, hc81_11, hc95_14])) e13 0 (by decide) (by decide) (by rw [hml]; rfl) (argsL := [(.ref b1)]) (rest := []) (lenOf pd_19 rfl) rfl rfl (Nat.le_of_eq rfl) (hb hby at_149) (c2 := 4) (s2 := 12) rfl rfl (by decide) (by decide) fun v15 T15 Lc15 L15 X15 l15 hQ15 => ?_
        obtain ⟨rfl, N15q, e15⟩ := hQ15
        have N15 : Fr n0 L15 := by rw [l15]; exact Fr.app N13 N15q
        refine Go.of (fun _ kz => XS.iload X15.here hx rfl (hb hby at_152) rfl kz) ?_
        refine Go.of (fun _ kz => XS.icmpNo X15.here hx rfl (hb hby at_154) rfl (teq (by decide : (0 : Int32) = (0 : Int32))).2 kz) ?_
        refine Go.of (fun _ kz => XS.iconst X15.here hx rfl (hb hby at_157) (XS.goto X15.here hx rfl (pc0 := 158) (pc' := 162) rfl (hb hby at_158) (by decide) (by decide) kz)) ?_
        refine Go.ret X15 (v := some (.int (1 : Int32))) (fun h => by rw [Bd.returns] at h; cases h) Bd.notSynchronized (fun fs hr => retN X15 hx (t := .boolean) Bd.returns (by simp) (hb hby at_162) hr) (by decide) (by decide) ?_
        show Q_rm0 Z _ _ _ _ _ _ _ _ _ _ _ _ _ _ h0 n0 _ T15.heap _
        rw [e15]
        exact ⟨rfl, N15⟩
      · refine Go.of (fun _ kz => XS.ifNo X13.here hx rfl (hb hby at_95) rfl ((if0 _ _).trans (feq hc95_14).1) kz) ?_
        refine Go.of (fun _ kz => XS.iload X13.here hx rfl (hb hby at_98) rfl (XS.iconst X13.here hx rfl (hb hby at_100) kz)) ?_
        refine Go.of (fun _ kz => XS.icmpYes X13.here hx rfl (pc0 := 101) (pc' := 112) rfl (hb hby at_101) rfl (tlt (by decide : (2 : Int32) < (3 : Int32))).1 (by decide) (by decide) kz) ?_
        refine Go.of (fun _ kz => XS.iload X13.here hx rfl (hb hby at_112) rfl (XS.iconst X13.here hx rfl (hb hby at_114) kz)) ?_
        show Go _ _ _ _ _ T13 (mkF m 115 #[.val (.int pp), .val (.int aa0), .val (.int aa1), .val (.int aa2), .val (.int aa3), .val (.int aa4), .val (.int (2 : Int32)), .val (.int (own_ch u0)), .val (.int (own_ch u1)), .val (.int (own_ch u2)), .val (.int (own_ch u3)), .val (.int (own_ch u4)), .val (.ref b1), .unset] [(.int (4 : Int32)), (.int (2 : Int32))])
        refine Go.of (fun _ kz => XS.icmpYes X13.here hx rfl (pc0 := 115) (pc' := 126) rfl (hb hby at_115) rfl (tlt (by decide : (2 : Int32) < (4 : Int32))).1 (by decide) (by decide) kz) ?_
        refine Go.of (fun _ kz => XS.iload X13.here hx rfl (hb hby at_126) rfl (XS.iconst X13.here hx rfl (hb hby at_128) kz)) ?_
        refine Go.of (fun _ kz => XS.icmpYes X13.here hx rfl (pc0 := 129) (pc' := 140) rfl (hb hby at_129) rfl (tlt (by decide : (2 : Int32) < (5 : Int32))).1 (by decide) (by decide) kz) ?_
        refine Go.of (fun _ kz => XS.iconst X13.here hx rfl (hb hby at_140) (XS.goto X13.here hx rfl (pc0 := 141) (pc' := 145) rfl (hb hby at_141) (by decide) (by decide) (XS.istore X13.here hx rfl (hb hby at_145) rfl (l' := #[.val (.int pp), .val (.int aa0), .val (.int aa1), .val (.int aa2), .val (.int aa3), .val (.int aa4), .val (.int (2 : Int32)), .val (.int (own_ch u0)), .val (.int (own_ch u1)), .val (.int (own_ch u2)), .val (.int (own_ch u3)), .val (.int (own_ch u4)), .val (.ref b1), .val (.int (1 : Int32))]) rfl (XS.aload X13.here hx rfl (hb hby at_147) rfl rfl kz)))) ?_
        show Go _ _ _ _ _ T13 (mkF m 149 #[.val (.int pp), .val (.int aa0), .val (.int aa1), .val (.int aa2), .val (.int aa3), .val (.int aa4), .val (.int (2 : Int32)), .val (.int (own_ch u0)), .val (.int (own_ch u1)), .val (.int (own_ch u2)), .val (.int (own_ch u3)), .val (.int (own_ch u4)), .val (.ref b1), .val (.int (1 : Int32))] [(.ref b1)])
        refine Go.callS X13 hx hZ hown (y := y_24) (w28 hw) (w29 hw) (w30 hw) (w31 hw) (by decide) (rm_nm_2 l Z a0 hw [] b1 sb9 skb9 scd9 szz9 svs9 u0 u1 1 csz vf T9.heap n0 O9 Es9 Fc9 Fv9 Vs9 Scs hcs Sf hvf Sas Shi Slo hb89 hD9 (by simp [own_nm, own_all, hc81_11, hc95_14])) e13 0 (by decide) (by decide) (by rw [hml]; rfl) (argsL := [(.ref b1)]) (rest := []) (lenOf pd_19 rfl) rfl rfl (Nat.le_of_eq rfl) (hb hby at_149) (c2 := 4) (s2 := 12) rfl rfl (by decide) (by decide) fun v16 T16 Lc16 L16 X16 l16 hQ16 => ?_
        obtain ⟨rfl, N16q, e16⟩ := hQ16
        have N16 : Fr n0 L16 := by rw [l16]; exact Fr.app N13 N16q
        refine Go.of (fun _ kz => XS.iload X16.here hx rfl (hb hby at_152) rfl kz) ?_
        refine Go.of (fun _ kz => XS.icmpNo X16.here hx rfl (hb hby at_154) rfl (teq (by decide : (1 : Int32) = (1 : Int32))).2 kz) ?_
        refine Go.of (fun _ kz => XS.iconst X16.here hx rfl (hb hby at_157) (XS.goto X16.here hx rfl (pc0 := 158) (pc' := 162) rfl (hb hby at_158) (by decide) (by decide) kz)) ?_
        refine Go.ret X16 (v := some (.int (1 : Int32))) (fun h => by rw [Bd.returns] at h; cases h) Bd.notSynchronized (fun fs hr => retN X16 hx (t := .boolean) Bd.returns (by simp) (hb hby at_162) hr) (by decide) (by decide) ?_
        show Q_rm0 Z _ _ _ _ _ _ _ _ _ _ _ _ _ _ h0 n0 _ T16.heap _
        rw [e16]
        exact ⟨rfl, N16⟩
  · show Go _ _ _ _ _ T1 (mkF m 62 #[.val (.int pp), .val (.int aa0), .val (.int aa1), .val (.int aa2), .val (.int aa3), .val (.int aa4), .val (.int (3 : Int32)), .val (.int (own_ch u0)), .val (.int (own_ch u1)), .val (.int (own_ch u2)), .val (.int (own_ch u3)), .val (.int (own_ch u4)), .unset, .unset] [(.int (own_ch u4)), (.int (own_ch u3)), (.int (own_ch u2)), (.int (own_ch u1)), (.int (own_ch u0)), (.int (3 : Int32)), (.ref b1), (.ref b1)])
    refine Go.callS X1 hx hZ hown (y := y_25) (w5 hw) (w6 hw) (w7 hw) (w8 hw) (by decide) (rm_mk_3 l Z a0 hw [] u0 u1 u2 u3 u4 h1 n0 O1) e1 2 (by decide) (by decide) (by rw [hml]; rfl) (argsL := [(.int (3 : Int32)), (.int (own_ch u0)), (.int (own_ch u1)), (.int (own_ch u2)), (.int (own_ch u3)), (.int (own_ch u4))]) (rest := [(.ref b1), (.ref b1)]) (lenOf pd_17 rfl) rfl rfl (Nat.le_of_eq rfl) (hb hby at_62) (c2 := 2) (s2 := 7) rfl rfl (by decide) (by decide) fun v17 T17 Lc17 L17 X17 l17 hQ17 => ?_
    obtain ⟨b17, kc17, rfl, N17q, K17, hsz17, V17⟩ := hQ17
    have N17 : Fr n0 L17 := by rw [l17]; exact Fr.app N0 N17q
    have ge_b17 : n0 ≤ b17 := Nat.le_trans (O1.1 ▸ O1.2.1) hsz17
    have ne_b17 : b17 ≠ b1 := fun q => Nat.ne_of_lt (Nat.lt_of_lt_of_le A1.lt hsz17) q.symm
    have f17_Exa_b1 := A1.keep K17
    have f17_Fld_b1_value := F1_value.keep K17 nin0
    have f17_Fld_b1_coder := F1_coder.keep K17 nin0
    have O17 := O1.keep K17 all0
    show Go _ _ _ _ _ T17 (mkF m 65 #[.val (.int pp), .val (.int aa0), .val (.int aa1), .val (.int aa2), .val (.int aa3), .val (.int aa4), .val (.int (3 : Int32)), .val (.int (own_ch u0)), .val (.int (own_ch u1)), .val (.int (own_ch u2)), .val (.int (own_ch u3)), .val (.int (own_ch u4)), .unset, .unset] [(.ref b17), (.ref b1), (.ref b1)])
    refine Go.callI X17 hx hZ hown (y := y_20) rfl (w10 hw) (w11 hw) (w4 hw) (w12 hw) (by decide) (a := b1) (rm_in1_3 l Z a0 hw [] b1 b17 kc17 u0 u1 u2 csz T17.heap n0 O17 f17_Exa_b1 f17_Fld_b1_value f17_Fld_b1_coder ge_b1 ne_b17 V17 Sas Shi Slo Scs hcs) rfl 1 (by decide) (by decide) (by rw [hml]; rfl) (argsL := [(.ref b17)]) (rest := [(.ref b1)]) (lenOf pd_18 rfl) rfl rfl (Nat.le_of_eq rfl) (hb hby at_65) (c2 := 4) (s2 := 16) rfl rfl (by decide) (by decide) fun v18 T18 Lc18 L18 X18 l18 hQ18 => ?_
    obtain ⟨rfl, N18q, K18, Es18, sb18, skb18, scd18, szz18, svs18, Fv18, Fc18, Vs18, hb818, hD18⟩ := hQ18
    have N18 : Fr n0 L18 := by rw [l18]; exact Fr.app N17 N18q
    have f18_Exa_b1 := f17_Exa_b1.keep K18
    have f18_Arv_b17 := V17.keep K18 (ninS ne_b17 nin0)
    have O18 := O17.keep K18 (allS ge_b1 all0)
    refine Go.of (fun _ kz => XS.astore X18.here hx rfl (hb hby at_68) rfl rfl (l' := #[.val (.int pp), .val (.int aa0), .val (.int aa1), .val (.int aa2), .val (.int aa3), .val (.int aa4), .val (.int (3 : Int32)), .val (.int (own_ch u0)), .val (.int (own_ch u1)), .val (.int (own_ch u2)), .val (.int (own_ch u3)), .val (.int (own_ch u4)), .val (.ref b1), .unset]) rfl (XS.iload X18.here hx rfl (hb hby at_70) rfl (XS.iconst X18.here hx rfl (hb hby at_72) kz))) ?_
    refine Go.of (fun _ kz => XS.icmpNo X18.here hx rfl (hb hby at_73) rfl (flt (by decide : ¬ (3 : Int32) < (1 : Int32))).1 kz) ?_
    refine Go.of (fun _ kz => XS.iload X18.here hx rfl (hb hby at_76) rfl kz) ?_
    show Go _ _ _ _ _ T18 (mkF m 78 #[.val (.int pp), .val (.int aa0), .val (.int aa1), .val (.int aa2), .val (.int aa3), .val (.int aa4), .val (.int (3 : Int32)), .val (.int (own_ch u0)), .val (.int (own_ch u1)), .val (.int (own_ch u2)), .val (.int (own_ch u3)), .val (.int (own_ch u4)), .val (.ref b1), .unset] [(.int (own_ch u0))])
    refine Go.callS X18 hx hZ hown (y := y_22) (w48 hw) (w49 hw) (w7 hw) (w50 hw) (by decide) (rm_ltt l Z a0 hw [] (own_ch u0) T18.heap n0 O18) rfl 0 (by decide) (by decide) (by rw [hml]; rfl) (argsL := [(.int (own_ch u0))]) (rest := []) (lenOf pd_14 rfl) rfl rfl (Nat.le_of_eq rfl) (hb hby at_78) (c2 := 4) (s2 := 16) rfl rfl (by decide) (by decide) fun v19 T19 Lc19 L19 X19 l19 hQ19 => ?_
    obtain ⟨rfl, N19q, e19⟩ := hQ19
    have N19 : Fr n0 L19 := by rw [l19]; exact Fr.app N18 N19q
    by_cases hc81_20 : (own_let (own_ch u0)) = (0 : Int32)
    · refine Go.of (fun _ kz => XS.ifYes X19.here hx rfl (pc0 := 81) (pc' := 144) rfl (hb hby at_81) rfl ((if0 _ _).trans (teq hc81_20).1) (by decide) (by decide) kz) ?_
      refine Go.of (fun _ kz => XS.iconst X19.here hx rfl (hb hby at_144) (XS.istore X19.here hx rfl (hb hby at_145) rfl (l' := #[.val (.int pp), .val (.int aa0), .val (.int aa1), .val (.int aa2), .val (.int aa3), .val (.int aa4), .val (.int (3 : Int32)), .val (.int (own_ch u0)), .val (.int (own_ch u1)), .val (.int (own_ch u2)), .val (.int (own_ch u3)), .val (.int (own_ch u4)), .val (.ref b1), .val (.int (0 : Int32))]) rfl (XS.aload X19.here hx rfl (hb hby at_147) rfl rfl kz))) ?_
      show Go _ _ _ _ _ T19 (mkF m 149 #[.val (.int pp), .val (.int aa0), .val (.int aa1), .val (.int aa2), .val (.int aa3), .val (.int aa4), .val (.int (3 : Int32)), .val (.int (own_ch u0)), .val (.int (own_ch u1)), .val (.int (own_ch u2)), .val (.int (own_ch u3)), .val (.int (own_ch u4)), .val (.ref b1), .val (.int (0 : Int32))] [(.ref b1)])
      refine Go.callS X19 hx hZ hown (y := y_24) (w28 hw) (w29 hw) (w30 hw) (w31 hw) (by decide) (rm_nm_3 l Z a0 hw [] b1 sb18 skb18 scd18 szz18 svs18 u0 u1 u2 0 csz vf T18.heap n0 O18 Es18 Fc18 Fv18 Vs18 Scs hcs Sf hvf Sas Shi Slo hb818 hD18 (by simp [own_nm, own_all, hc81_20])) e19 0 (by decide) (by decide) (by rw [hml]; rfl) (argsL := [(.ref b1)]) (rest := []) (lenOf pd_19 rfl) rfl rfl (Nat.le_of_eq rfl) (hb hby at_149) (c2 := 4) (s2 := 16) rfl rfl (by decide) (by decide) fun v21 T21 Lc21 L21 X21 l21 hQ21 => ?_
      obtain ⟨rfl, N21q, e21⟩ := hQ21
      have N21 : Fr n0 L21 := by rw [l21]; exact Fr.app N19 N21q
      refine Go.of (fun _ kz => XS.iload X21.here hx rfl (hb hby at_152) rfl kz) ?_
      refine Go.of (fun _ kz => XS.icmpNo X21.here hx rfl (hb hby at_154) rfl (teq (by decide : (0 : Int32) = (0 : Int32))).2 kz) ?_
      refine Go.of (fun _ kz => XS.iconst X21.here hx rfl (hb hby at_157) (XS.goto X21.here hx rfl (pc0 := 158) (pc' := 162) rfl (hb hby at_158) (by decide) (by decide) kz)) ?_
      refine Go.ret X21 (v := some (.int (1 : Int32))) (fun h => by rw [Bd.returns] at h; cases h) Bd.notSynchronized (fun fs hr => retN X21 hx (t := .boolean) Bd.returns (by simp) (hb hby at_162) hr) (by decide) (by decide) ?_
      show Q_rm0 Z _ _ _ _ _ _ _ _ _ _ _ _ _ _ h0 n0 _ T21.heap _
      rw [e21]
      exact ⟨rfl, N21⟩
    · refine Go.of (fun _ kz => XS.ifNo X19.here hx rfl (hb hby at_81) rfl ((if0 _ _).trans (feq hc81_20).1) kz) ?_
      refine Go.of (fun _ kz => XS.iload X19.here hx rfl (hb hby at_84) rfl (XS.iconst X19.here hx rfl (hb hby at_86) kz)) ?_
      refine Go.of (fun _ kz => XS.icmpNo X19.here hx rfl (hb hby at_87) rfl (flt (by decide : ¬ (3 : Int32) < (2 : Int32))).1 kz) ?_
      refine Go.of (fun _ kz => XS.iload X19.here hx rfl (hb hby at_90) rfl kz) ?_
      show Go _ _ _ _ _ T19 (mkF m 92 #[.val (.int pp), .val (.int aa0), .val (.int aa1), .val (.int aa2), .val (.int aa3), .val (.int aa4), .val (.int (3 : Int32)), .val (.int (own_ch u0)), .val (.int (own_ch u1)), .val (.int (own_ch u2)), .val (.int (own_ch u3)), .val (.int (own_ch u4)), .val (.ref b1), .unset] [(.int (own_ch u1))])
      refine Go.callS X19 hx hZ hown (y := y_23) (w115 hw) (w116 hw) (w7 hw) (w117 hw) (by decide) (rm_lat l Z a0 hw [] (own_ch u1) T18.heap n0 O18) e19 0 (by decide) (by decide) (by rw [hml]; rfl) (argsL := [(.int (own_ch u1))]) (rest := []) (lenOf pd_14 rfl) rfl rfl (Nat.le_of_eq rfl) (hb hby at_92) (c2 := 4) (s2 := 16) rfl rfl (by decide) (by decide) fun v22 T22 Lc22 L22 X22 l22 hQ22 => ?_
      obtain ⟨rfl, N22q, e22⟩ := hQ22
      have N22 : Fr n0 L22 := by rw [l22]; exact Fr.app N19 N22q
      by_cases hc95_23 : (own_ltr (own_ch u1)) = (0 : Int32)
      · refine Go.of (fun _ kz => XS.ifYes X22.here hx rfl (pc0 := 95) (pc' := 144) rfl (hb hby at_95) rfl ((if0 _ _).trans (teq hc95_23).1) (by decide) (by decide) kz) ?_
        refine Go.of (fun _ kz => XS.iconst X22.here hx rfl (hb hby at_144) (XS.istore X22.here hx rfl (hb hby at_145) rfl (l' := #[.val (.int pp), .val (.int aa0), .val (.int aa1), .val (.int aa2), .val (.int aa3), .val (.int aa4), .val (.int (3 : Int32)), .val (.int (own_ch u0)), .val (.int (own_ch u1)), .val (.int (own_ch u2)), .val (.int (own_ch u3)), .val (.int (own_ch u4)), .val (.ref b1), .val (.int (0 : Int32))]) rfl (XS.aload X22.here hx rfl (hb hby at_147) rfl rfl kz))) ?_
        show Go _ _ _ _ _ T22 (mkF m 149 #[.val (.int pp), .val (.int aa0), .val (.int aa1), .val (.int aa2), .val (.int aa3), .val (.int aa4), .val (.int (3 : Int32)), .val (.int (own_ch u0)), .val (.int (own_ch u1)), .val (.int (own_ch u2)), .val (.int (own_ch u3)), .val (.int (own_ch u4)), .val (.ref b1), .val (.int (0 : Int32))] [(.ref b1)])
        refine Go.callS X22 hx hZ hown (y := y_24) (w28 hw) (w29 hw) (w30 hw) (w31 hw) (by decide) (rm_nm_3 l Z a0 hw [] b1 sb18 skb18 scd18 szz18 svs18 u0 u1 u2 0 csz vf T18.heap n0 O18 Es18 Fc18 Fv18 Vs18 Scs hcs Sf hvf Sas Shi Slo hb818 hD18 (by simp [own_nm, own_all, hc81_20, hc95_23])) e22 0 (by decide) (by decide) (by rw [hml]; rfl) (argsL := [(.ref b1)]) (rest := []) (lenOf pd_19 rfl) rfl rfl (Nat.le_of_eq rfl) (hb hby at_149) (c2 := 4) (s2 := 16) rfl rfl (by decide) (by decide) fun v24 T24 Lc24 L24 X24 l24 hQ24 => ?_
        obtain ⟨rfl, N24q, e24⟩ := hQ24
        have N24 : Fr n0 L24 := by rw [l24]; exact Fr.app N22 N24q
        refine Go.of (fun _ kz => XS.iload X24.here hx rfl (hb hby at_152) rfl kz) ?_
        refine Go.of (fun _ kz => XS.icmpNo X24.here hx rfl (hb hby at_154) rfl (teq (by decide : (0 : Int32) = (0 : Int32))).2 kz) ?_
        refine Go.of (fun _ kz => XS.iconst X24.here hx rfl (hb hby at_157) (XS.goto X24.here hx rfl (pc0 := 158) (pc' := 162) rfl (hb hby at_158) (by decide) (by decide) kz)) ?_
        refine Go.ret X24 (v := some (.int (1 : Int32))) (fun h => by rw [Bd.returns] at h; cases h) Bd.notSynchronized (fun fs hr => retN X24 hx (t := .boolean) Bd.returns (by simp) (hb hby at_162) hr) (by decide) (by decide) ?_
        show Q_rm0 Z _ _ _ _ _ _ _ _ _ _ _ _ _ _ h0 n0 _ T24.heap _
        rw [e24]
        exact ⟨rfl, N24⟩
      · refine Go.of (fun _ kz => XS.ifNo X22.here hx rfl (hb hby at_95) rfl ((if0 _ _).trans (feq hc95_23).1) kz) ?_
        refine Go.of (fun _ kz => XS.iload X22.here hx rfl (hb hby at_98) rfl (XS.iconst X22.here hx rfl (hb hby at_100) kz)) ?_
        refine Go.of (fun _ kz => XS.icmpNo X22.here hx rfl (hb hby at_101) rfl (flt (by decide : ¬ (3 : Int32) < (3 : Int32))).1 kz) ?_
        refine Go.of (fun _ kz => XS.iload X22.here hx rfl (hb hby at_104) rfl kz) ?_
        show Go _ _ _ _ _ T22 (mkF m 106 #[.val (.int pp), .val (.int aa0), .val (.int aa1), .val (.int aa2), .val (.int aa3), .val (.int aa4), .val (.int (3 : Int32)), .val (.int (own_ch u0)), .val (.int (own_ch u1)), .val (.int (own_ch u2)), .val (.int (own_ch u3)), .val (.int (own_ch u4)), .val (.ref b1), .unset] [(.int (own_ch u2))])
        refine Go.callS X22 hx hZ hown (y := y_23) (w115 hw) (w116 hw) (w7 hw) (w117 hw) (by decide) (rm_lat l Z a0 hw [] (own_ch u2) T18.heap n0 O18) e22 0 (by decide) (by decide) (by rw [hml]; rfl) (argsL := [(.int (own_ch u2))]) (rest := []) (lenOf pd_14 rfl) rfl rfl (Nat.le_of_eq rfl) (hb hby at_106) (c2 := 4) (s2 := 16) rfl rfl (by decide) (by decide) fun v25 T25 Lc25 L25 X25 l25 hQ25 => ?_
        obtain ⟨rfl, N25q, e25⟩ := hQ25
        have N25 : Fr n0 L25 := by rw [l25]; exact Fr.app N22 N25q
        by_cases hc109_26 : (own_ltr (own_ch u2)) = (0 : Int32)
        · refine Go.of (fun _ kz => XS.ifYes X25.here hx rfl (pc0 := 109) (pc' := 144) rfl (hb hby at_109) rfl ((if0 _ _).trans (teq hc109_26).1) (by decide) (by decide) kz) ?_
          refine Go.of (fun _ kz => XS.iconst X25.here hx rfl (hb hby at_144) (XS.istore X25.here hx rfl (hb hby at_145) rfl (l' := #[.val (.int pp), .val (.int aa0), .val (.int aa1), .val (.int aa2), .val (.int aa3), .val (.int aa4), .val (.int (3 : Int32)), .val (.int (own_ch u0)), .val (.int (own_ch u1)), .val (.int (own_ch u2)), .val (.int (own_ch u3)), .val (.int (own_ch u4)), .val (.ref b1), .val (.int (0 : Int32))]) rfl (XS.aload X25.here hx rfl (hb hby at_147) rfl rfl kz))) ?_
          show Go _ _ _ _ _ T25 (mkF m 149 #[.val (.int pp), .val (.int aa0), .val (.int aa1), .val (.int aa2), .val (.int aa3), .val (.int aa4), .val (.int (3 : Int32)), .val (.int (own_ch u0)), .val (.int (own_ch u1)), .val (.int (own_ch u2)), .val (.int (own_ch u3)), .val (.int (own_ch u4)), .val (.ref b1), .val (.int (0 : Int32))] [(.ref b1)])
          refine Go.callS X25 hx hZ hown (y := y_24) (w28 hw) (w29 hw) (w30 hw) (w31 hw) (by decide) (rm_nm_3 l Z a0 hw [] b1 sb18 skb18 scd18 szz18 svs18 u0 u1 u2 0 csz vf T18.heap n0 O18 Es18 Fc18 Fv18 Vs18 Scs hcs Sf hvf Sas Shi Slo hb818 hD18 (by simp [own_nm, own_all, hc81_20, hc95_23, hc109_26])) e25 0 (by decide) (by decide) (by rw [hml]; rfl) (argsL := [(.ref b1)]) (rest := []) (lenOf pd_19 rfl) rfl rfl (Nat.le_of_eq rfl) (hb hby at_149) (c2 := 4) (s2 := 16) rfl rfl (by decide) (by decide) fun v27 T27 Lc27 L27 X27 l27 hQ27 => ?_
          obtain ⟨rfl, N27q, e27⟩ := hQ27
          have N27 : Fr n0 L27 := by rw [l27]; exact Fr.app N25 N27q
          refine Go.of (fun _ kz => XS.iload X27.here hx rfl (hb hby at_152) rfl kz) ?_
          refine Go.of (fun _ kz => XS.icmpNo X27.here hx rfl (hb hby at_154) rfl (teq (by decide : (0 : Int32) = (0 : Int32))).2 kz) ?_
          refine Go.of (fun _ kz => XS.iconst X27.here hx rfl (hb hby at_157) (XS.goto X27.here hx rfl (pc0 := 158) (pc' := 162) rfl (hb hby at_158) (by decide) (by decide) kz)) ?_
          refine Go.ret X27 (v := some (.int (1 : Int32))) (fun h => by rw [Bd.returns] at h; cases h) Bd.notSynchronized (fun fs hr => retN X27 hx (t := .boolean) Bd.returns (by simp) (hb hby at_162) hr) (by decide) (by decide) ?_
          show Q_rm0 Z _ _ _ _ _ _ _ _ _ _ _ _ _ _ h0 n0 _ T27.heap _
          rw [e27]
          exact ⟨rfl, N27⟩
        · refine Go.of (fun _ kz => XS.ifNo X25.here hx rfl (hb hby at_109) rfl ((if0 _ _).trans (feq hc109_26).1) kz) ?_
          refine Go.of (fun _ kz => XS.iload X25.here hx rfl (hb hby at_112) rfl (XS.iconst X25.here hx rfl (hb hby at_114) kz)) ?_
          refine Go.of (fun _ kz => XS.icmpYes X25.here hx rfl (pc0 := 115) (pc' := 126) rfl (hb hby at_115) rfl (tlt (by decide : (3 : Int32) < (4 : Int32))).1 (by decide) (by decide) kz) ?_
          refine Go.of (fun _ kz => XS.iload X25.here hx rfl (hb hby at_126) rfl (XS.iconst X25.here hx rfl (hb hby at_128) kz)) ?_
          show Go _ _ _ _ _ T25 (mkF m 129 #[.val (.int pp), .val (.int aa0), .val (.int aa1), .val (.int aa2), .val (.int aa3), .val (.int aa4), .val (.int (3 : Int32)), .val (.int (own_ch u0)), .val (.int (own_ch u1)), .val (.int (own_ch u2)), .val (.int (own_ch u3)), .val (.int (own_ch u4)), .val (.ref b1), .unset] [(.int (5 : Int32)), (.int (3 : Int32))])
          refine Go.of (fun _ kz => XS.icmpYes X25.here hx rfl (pc0 := 129) (pc' := 140) rfl (hb hby at_129) rfl (tlt (by decide : (3 : Int32) < (5 : Int32))).1 (by decide) (by decide) kz) ?_
          refine Go.of (fun _ kz => XS.iconst X25.here hx rfl (hb hby at_140) (XS.goto X25.here hx rfl (pc0 := 141) (pc' := 145) rfl (hb hby at_141) (by decide) (by decide) (XS.istore X25.here hx rfl (hb hby at_145) rfl (l' := #[.val (.int pp), .val (.int aa0), .val (.int aa1), .val (.int aa2), .val (.int aa3), .val (.int aa4), .val (.int (3 : Int32)), .val (.int (own_ch u0)), .val (.int (own_ch u1)), .val (.int (own_ch u2)), .val (.int (own_ch u3)), .val (.int (own_ch u4)), .val (.ref b1), .val (.int (1 : Int32))]) rfl (XS.aload X25.here hx rfl (hb hby at_147) rfl rfl kz)))) ?_
          show Go _ _ _ _ _ T25 (mkF m 149 #[.val (.int pp), .val (.int aa0), .val (.int aa1), .val (.int aa2), .val (.int aa3), .val (.int aa4), .val (.int (3 : Int32)), .val (.int (own_ch u0)), .val (.int (own_ch u1)), .val (.int (own_ch u2)), .val (.int (own_ch u3)), .val (.int (own_ch u4)), .val (.ref b1), .val (.int (1 : Int32))] [(.ref b1)])
          refine Go.callS X25 hx hZ hown (y := y_24) (w28 hw) (w29 hw) (w30 hw) (w31 hw) (by decide) (rm_nm_3 l Z a0 hw [] b1 sb18 skb18 scd18 szz18 svs18 u0 u1 u2 1 csz vf T18.heap n0 O18 Es18 Fc18 Fv18 Vs18 Scs hcs Sf hvf Sas Shi Slo hb818 hD18 (by simp [own_nm, own_all, hc81_20, hc95_23, hc109_26])) e25 0 (by decide) (by decide) (by rw [hml]; rfl) (argsL := [(.ref b1)]) (rest := []) (lenOf pd_19 rfl) rfl rfl (Nat.le_of_eq rfl) (hb hby at_149) (c2 := 4) (s2 := 16) rfl rfl (by decide) (by decide) fun v28 T28 Lc28 L28 X28 l28 hQ28 => ?_
          obtain ⟨rfl, N28q, e28⟩ := hQ28
          have N28 : Fr n0 L28 := by rw [l28]; exact Fr.app N25 N28q
          refine Go.of (fun _ kz => XS.iload X28.here hx rfl (hb hby at_152) rfl kz) ?_
          refine Go.of (fun _ kz => XS.icmpNo X28.here hx rfl (hb hby at_154) rfl (teq (by decide : (1 : Int32) = (1 : Int32))).2 kz) ?_
          refine Go.of (fun _ kz => XS.iconst X28.here hx rfl (hb hby at_157) (XS.goto X28.here hx rfl (pc0 := 158) (pc' := 162) rfl (hb hby at_158) (by decide) (by decide) kz)) ?_
          refine Go.ret X28 (v := some (.int (1 : Int32))) (fun h => by rw [Bd.returns] at h; cases h) Bd.notSynchronized (fun fs hr => retN X28 hx (t := .boolean) Bd.returns (by simp) (hb hby at_162) hr) (by decide) (by decide) ?_
          show Q_rm0 Z _ _ _ _ _ _ _ _ _ _ _ _ _ _ h0 n0 _ T28.heap _
          rw [e28]
          exact ⟨rfl, N28⟩
  · show Go _ _ _ _ _ T1 (mkF m 62 #[.val (.int pp), .val (.int aa0), .val (.int aa1), .val (.int aa2), .val (.int aa3), .val (.int aa4), .val (.int (4 : Int32)), .val (.int (own_ch u0)), .val (.int (own_ch u1)), .val (.int (own_ch u2)), .val (.int (own_ch u3)), .val (.int (own_ch u4)), .unset, .unset] [(.int (own_ch u4)), (.int (own_ch u3)), (.int (own_ch u2)), (.int (own_ch u1)), (.int (own_ch u0)), (.int (4 : Int32)), (.ref b1), (.ref b1)])
    refine Go.callS X1 hx hZ hown (y := y_25) (w5 hw) (w6 hw) (w7 hw) (w8 hw) (by decide) (rm_mk_4 l Z a0 hw [] u0 u1 u2 u3 u4 h1 n0 O1) e1 2 (by decide) (by decide) (by rw [hml]; rfl) (argsL := [(.int (4 : Int32)), (.int (own_ch u0)), (.int (own_ch u1)), (.int (own_ch u2)), (.int (own_ch u3)), (.int (own_ch u4))]) (rest := [(.ref b1), (.ref b1)]) (lenOf pd_17 rfl) rfl rfl (Nat.le_of_eq rfl) (hb hby at_62) (c2 := 2) (s2 := 8) rfl rfl (by decide) (by decide) fun v29 T29 Lc29 L29 X29 l29 hQ29 => ?_
    obtain ⟨b29, kc29, rfl, N29q, K29, hsz29, V29⟩ := hQ29
    have N29 : Fr n0 L29 := by rw [l29]; exact Fr.app N0 N29q
    have ge_b29 : n0 ≤ b29 := Nat.le_trans (O1.1 ▸ O1.2.1) hsz29
    have ne_b29 : b29 ≠ b1 := fun q => Nat.ne_of_lt (Nat.lt_of_lt_of_le A1.lt hsz29) q.symm
    have f29_Exa_b1 := A1.keep K29
    have f29_Fld_b1_value := F1_value.keep K29 nin0
    have f29_Fld_b1_coder := F1_coder.keep K29 nin0
    have O29 := O1.keep K29 all0
    show Go _ _ _ _ _ T29 (mkF m 65 #[.val (.int pp), .val (.int aa0), .val (.int aa1), .val (.int aa2), .val (.int aa3), .val (.int aa4), .val (.int (4 : Int32)), .val (.int (own_ch u0)), .val (.int (own_ch u1)), .val (.int (own_ch u2)), .val (.int (own_ch u3)), .val (.int (own_ch u4)), .unset, .unset] [(.ref b29), (.ref b1), (.ref b1)])
    refine Go.callI X29 hx hZ hown (y := y_20) rfl (w10 hw) (w11 hw) (w4 hw) (w12 hw) (by decide) (a := b1) (rm_in1_4 l Z a0 hw [] b1 b29 kc29 u0 u1 u2 u3 csz T29.heap n0 O29 f29_Exa_b1 f29_Fld_b1_value f29_Fld_b1_coder ge_b1 ne_b29 V29 Sas Shi Slo Scs hcs) rfl 1 (by decide) (by decide) (by rw [hml]; rfl) (argsL := [(.ref b29)]) (rest := [(.ref b1)]) (lenOf pd_18 rfl) rfl rfl (Nat.le_of_eq rfl) (hb hby at_65) (c2 := 4) (s2 := 20) rfl rfl (by decide) (by decide) fun v30 T30 Lc30 L30 X30 l30 hQ30 => ?_
    obtain ⟨rfl, N30q, K30, Es30, sb30, skb30, scd30, szz30, svs30, Fv30, Fc30, Vs30, hb830, hD30⟩ := hQ30
    have N30 : Fr n0 L30 := by rw [l30]; exact Fr.app N29 N30q
    have f30_Exa_b1 := f29_Exa_b1.keep K30
    have f30_Arv_b29 := V29.keep K30 (ninS ne_b29 nin0)
    have O30 := O29.keep K30 (allS ge_b1 all0)
    refine Go.of (fun _ kz => XS.astore X30.here hx rfl (hb hby at_68) rfl rfl (l' := #[.val (.int pp), .val (.int aa0), .val (.int aa1), .val (.int aa2), .val (.int aa3), .val (.int aa4), .val (.int (4 : Int32)), .val (.int (own_ch u0)), .val (.int (own_ch u1)), .val (.int (own_ch u2)), .val (.int (own_ch u3)), .val (.int (own_ch u4)), .val (.ref b1), .unset]) rfl (XS.iload X30.here hx rfl (hb hby at_70) rfl (XS.iconst X30.here hx rfl (hb hby at_72) kz))) ?_
    refine Go.of (fun _ kz => XS.icmpNo X30.here hx rfl (hb hby at_73) rfl (flt (by decide : ¬ (4 : Int32) < (1 : Int32))).1 kz) ?_
    refine Go.of (fun _ kz => XS.iload X30.here hx rfl (hb hby at_76) rfl kz) ?_
    show Go _ _ _ _ _ T30 (mkF m 78 #[.val (.int pp), .val (.int aa0), .val (.int aa1), .val (.int aa2), .val (.int aa3), .val (.int aa4), .val (.int (4 : Int32)), .val (.int (own_ch u0)), .val (.int (own_ch u1)), .val (.int (own_ch u2)), .val (.int (own_ch u3)), .val (.int (own_ch u4)), .val (.ref b1), .unset] [(.int (own_ch u0))])
    refine Go.callS X30 hx hZ hown (y := y_22) (w48 hw) (w49 hw) (w7 hw) (w50 hw) (by decide) (rm_ltt l Z a0 hw [] (own_ch u0) T30.heap n0 O30) rfl 0 (by decide) (by decide) (by rw [hml]; rfl) (argsL := [(.int (own_ch u0))]) (rest := []) (lenOf pd_14 rfl) rfl rfl (Nat.le_of_eq rfl) (hb hby at_78) (c2 := 4) (s2 := 20) rfl rfl (by decide) (by decide) fun v31 T31 Lc31 L31 X31 l31 hQ31 => ?_
    obtain ⟨rfl, N31q, e31⟩ := hQ31
    have N31 : Fr n0 L31 := by rw [l31]; exact Fr.app N30 N31q
    by_cases hc81_32 : (own_let (own_ch u0)) = (0 : Int32)
    · refine Go.of (fun _ kz => XS.ifYes X31.here hx rfl (pc0 := 81) (pc' := 144) rfl (hb hby at_81) rfl ((if0 _ _).trans (teq hc81_32).1) (by decide) (by decide) kz) ?_
      refine Go.of (fun _ kz => XS.iconst X31.here hx rfl (hb hby at_144) (XS.istore X31.here hx rfl (hb hby at_145) rfl (l' := #[.val (.int pp), .val (.int aa0), .val (.int aa1), .val (.int aa2), .val (.int aa3), .val (.int aa4), .val (.int (4 : Int32)), .val (.int (own_ch u0)), .val (.int (own_ch u1)), .val (.int (own_ch u2)), .val (.int (own_ch u3)), .val (.int (own_ch u4)), .val (.ref b1), .val (.int (0 : Int32))]) rfl (XS.aload X31.here hx rfl (hb hby at_147) rfl rfl kz))) ?_
      show Go _ _ _ _ _ T31 (mkF m 149 #[.val (.int pp), .val (.int aa0), .val (.int aa1), .val (.int aa2), .val (.int aa3), .val (.int aa4), .val (.int (4 : Int32)), .val (.int (own_ch u0)), .val (.int (own_ch u1)), .val (.int (own_ch u2)), .val (.int (own_ch u3)), .val (.int (own_ch u4)), .val (.ref b1), .val (.int (0 : Int32))] [(.ref b1)])
      refine Go.callS X31 hx hZ hown (y := y_24) (w28 hw) (w29 hw) (w30 hw) (w31 hw) (by decide) (rm_nm_4 l Z a0 hw [] b1 sb30 skb30 scd30 szz30 svs30 u0 u1 u2 u3 0 csz vf T30.heap n0 O30 Es30 Fc30 Fv30 Vs30 Scs hcs Sf hvf Sas Shi Slo hb830 hD30 (by simp [own_nm, own_all, hc81_32])) e31 0 (by decide) (by decide) (by rw [hml]; rfl) (argsL := [(.ref b1)]) (rest := []) (lenOf pd_19 rfl) rfl rfl (Nat.le_of_eq rfl) (hb hby at_149) (c2 := 4) (s2 := 20) rfl rfl (by decide) (by decide) fun v33 T33 Lc33 L33 X33 l33 hQ33 => ?_
      obtain ⟨rfl, N33q, e33⟩ := hQ33
      have N33 : Fr n0 L33 := by rw [l33]; exact Fr.app N31 N33q
      refine Go.of (fun _ kz => XS.iload X33.here hx rfl (hb hby at_152) rfl kz) ?_
      refine Go.of (fun _ kz => XS.icmpNo X33.here hx rfl (hb hby at_154) rfl (teq (by decide : (0 : Int32) = (0 : Int32))).2 kz) ?_
      refine Go.of (fun _ kz => XS.iconst X33.here hx rfl (hb hby at_157) (XS.goto X33.here hx rfl (pc0 := 158) (pc' := 162) rfl (hb hby at_158) (by decide) (by decide) kz)) ?_
      refine Go.ret X33 (v := some (.int (1 : Int32))) (fun h => by rw [Bd.returns] at h; cases h) Bd.notSynchronized (fun fs hr => retN X33 hx (t := .boolean) Bd.returns (by simp) (hb hby at_162) hr) (by decide) (by decide) ?_
      show Q_rm0 Z _ _ _ _ _ _ _ _ _ _ _ _ _ _ h0 n0 _ T33.heap _
      rw [e33]
      exact ⟨rfl, N33⟩
    · refine Go.of (fun _ kz => XS.ifNo X31.here hx rfl (hb hby at_81) rfl ((if0 _ _).trans (feq hc81_32).1) kz) ?_
      refine Go.of (fun _ kz => XS.iload X31.here hx rfl (hb hby at_84) rfl (XS.iconst X31.here hx rfl (hb hby at_86) kz)) ?_
      refine Go.of (fun _ kz => XS.icmpNo X31.here hx rfl (hb hby at_87) rfl (flt (by decide : ¬ (4 : Int32) < (2 : Int32))).1 kz) ?_
      refine Go.of (fun _ kz => XS.iload X31.here hx rfl (hb hby at_90) rfl kz) ?_
      show Go _ _ _ _ _ T31 (mkF m 92 #[.val (.int pp), .val (.int aa0), .val (.int aa1), .val (.int aa2), .val (.int aa3), .val (.int aa4), .val (.int (4 : Int32)), .val (.int (own_ch u0)), .val (.int (own_ch u1)), .val (.int (own_ch u2)), .val (.int (own_ch u3)), .val (.int (own_ch u4)), .val (.ref b1), .unset] [(.int (own_ch u1))])
      refine Go.callS X31 hx hZ hown (y := y_23) (w115 hw) (w116 hw) (w7 hw) (w117 hw) (by decide) (rm_lat l Z a0 hw [] (own_ch u1) T30.heap n0 O30) e31 0 (by decide) (by decide) (by rw [hml]; rfl) (argsL := [(.int (own_ch u1))]) (rest := []) (lenOf pd_14 rfl) rfl rfl (Nat.le_of_eq rfl) (hb hby at_92) (c2 := 4) (s2 := 20) rfl rfl (by decide) (by decide) fun v34 T34 Lc34 L34 X34 l34 hQ34 => ?_
      obtain ⟨rfl, N34q, e34⟩ := hQ34
      have N34 : Fr n0 L34 := by rw [l34]; exact Fr.app N31 N34q
      by_cases hc95_35 : (own_ltr (own_ch u1)) = (0 : Int32)
      · refine Go.of (fun _ kz => XS.ifYes X34.here hx rfl (pc0 := 95) (pc' := 144) rfl (hb hby at_95) rfl ((if0 _ _).trans (teq hc95_35).1) (by decide) (by decide) kz) ?_
        refine Go.of (fun _ kz => XS.iconst X34.here hx rfl (hb hby at_144) (XS.istore X34.here hx rfl (hb hby at_145) rfl (l' := #[.val (.int pp), .val (.int aa0), .val (.int aa1), .val (.int aa2), .val (.int aa3), .val (.int aa4), .val (.int (4 : Int32)), .val (.int (own_ch u0)), .val (.int (own_ch u1)), .val (.int (own_ch u2)), .val (.int (own_ch u3)), .val (.int (own_ch u4)), .val (.ref b1), .val (.int (0 : Int32))]) rfl (XS.aload X34.here hx rfl (hb hby at_147) rfl rfl kz))) ?_
        show Go _ _ _ _ _ T34 (mkF m 149 #[.val (.int pp), .val (.int aa0), .val (.int aa1), .val (.int aa2), .val (.int aa3), .val (.int aa4), .val (.int (4 : Int32)), .val (.int (own_ch u0)), .val (.int (own_ch u1)), .val (.int (own_ch u2)), .val (.int (own_ch u3)), .val (.int (own_ch u4)), .val (.ref b1), .val (.int (0 : Int32))] [(.ref b1)])
        refine Go.callS X34 hx hZ hown (y := y_24) (w28 hw) (w29 hw) (w30 hw) (w31 hw) (by decide) (rm_nm_4 l Z a0 hw [] b1 sb30 skb30 scd30 szz30 svs30 u0 u1 u2 u3 0 csz vf T30.heap n0 O30 Es30 Fc30 Fv30 Vs30 Scs hcs Sf hvf Sas Shi Slo hb830 hD30 (by simp [own_nm, own_all, hc81_32, hc95_35])) e34 0 (by decide) (by decide) (by rw [hml]; rfl) (argsL := [(.ref b1)]) (rest := []) (lenOf pd_19 rfl) rfl rfl (Nat.le_of_eq rfl) (hb hby at_149) (c2 := 4) (s2 := 20) rfl rfl (by decide) (by decide) fun v36 T36 Lc36 L36 X36 l36 hQ36 => ?_
        obtain ⟨rfl, N36q, e36⟩ := hQ36
        have N36 : Fr n0 L36 := by rw [l36]; exact Fr.app N34 N36q
        refine Go.of (fun _ kz => XS.iload X36.here hx rfl (hb hby at_152) rfl kz) ?_
        refine Go.of (fun _ kz => XS.icmpNo X36.here hx rfl (hb hby at_154) rfl (teq (by decide : (0 : Int32) = (0 : Int32))).2 kz) ?_
        refine Go.of (fun _ kz => XS.iconst X36.here hx rfl (hb hby at_157) (XS.goto X36.here hx rfl (pc0 := 158) (pc' := 162) rfl (hb hby at_158) (by decide) (by decide) kz)) ?_
        refine Go.ret X36 (v := some (.int (1 : Int32))) (fun h => by rw [Bd.returns] at h; cases h) Bd.notSynchronized (fun fs hr => retN X36 hx (t := .boolean) Bd.returns (by simp) (hb hby at_162) hr) (by decide) (by decide) ?_
        show Q_rm0 Z _ _ _ _ _ _ _ _ _ _ _ _ _ _ h0 n0 _ T36.heap _
        rw [e36]
        exact ⟨rfl, N36⟩
      · refine Go.of (fun _ kz => XS.ifNo X34.here hx rfl (hb hby at_95) rfl ((if0 _ _).trans (feq hc95_35).1) kz) ?_
        refine Go.of (fun _ kz => XS.iload X34.here hx rfl (hb hby at_98) rfl (XS.iconst X34.here hx rfl (hb hby at_100) kz)) ?_
        refine Go.of (fun _ kz => XS.icmpNo X34.here hx rfl (hb hby at_101) rfl (flt (by decide : ¬ (4 : Int32) < (3 : Int32))).1 kz) ?_
        refine Go.of (fun _ kz => XS.iload X34.here hx rfl (hb hby at_104) rfl kz) ?_
        show Go _ _ _ _ _ T34 (mkF m 106 #[.val (.int pp), .val (.int aa0), .val (.int aa1), .val (.int aa2), .val (.int aa3), .val (.int aa4), .val (.int (4 : Int32)), .val (.int (own_ch u0)), .val (.int (own_ch u1)), .val (.int (own_ch u2)), .val (.int (own_ch u3)), .val (.int (own_ch u4)), .val (.ref b1), .unset] [(.int (own_ch u2))])
        refine Go.callS X34 hx hZ hown (y := y_23) (w115 hw) (w116 hw) (w7 hw) (w117 hw) (by decide) (rm_lat l Z a0 hw [] (own_ch u2) T30.heap n0 O30) e34 0 (by decide) (by decide) (by rw [hml]; rfl) (argsL := [(.int (own_ch u2))]) (rest := []) (lenOf pd_14 rfl) rfl rfl (Nat.le_of_eq rfl) (hb hby at_106) (c2 := 4) (s2 := 20) rfl rfl (by decide) (by decide) fun v37 T37 Lc37 L37 X37 l37 hQ37 => ?_
        obtain ⟨rfl, N37q, e37⟩ := hQ37
        have N37 : Fr n0 L37 := by rw [l37]; exact Fr.app N34 N37q
        by_cases hc109_38 : (own_ltr (own_ch u2)) = (0 : Int32)
        · refine Go.of (fun _ kz => XS.ifYes X37.here hx rfl (pc0 := 109) (pc' := 144) rfl (hb hby at_109) rfl ((if0 _ _).trans (teq hc109_38).1) (by decide) (by decide) kz) ?_
          refine Go.of (fun _ kz => XS.iconst X37.here hx rfl (hb hby at_144) (XS.istore X37.here hx rfl (hb hby at_145) rfl (l' := #[.val (.int pp), .val (.int aa0), .val (.int aa1), .val (.int aa2), .val (.int aa3), .val (.int aa4), .val (.int (4 : Int32)), .val (.int (own_ch u0)), .val (.int (own_ch u1)), .val (.int (own_ch u2)), .val (.int (own_ch u3)), .val (.int (own_ch u4)), .val (.ref b1), .val (.int (0 : Int32))]) rfl (XS.aload X37.here hx rfl (hb hby at_147) rfl rfl kz))) ?_
          show Go _ _ _ _ _ T37 (mkF m 149 #[.val (.int pp), .val (.int aa0), .val (.int aa1), .val (.int aa2), .val (.int aa3), .val (.int aa4), .val (.int (4 : Int32)), .val (.int (own_ch u0)), .val (.int (own_ch u1)), .val (.int (own_ch u2)), .val (.int (own_ch u3)), .val (.int (own_ch u4)), .val (.ref b1), .val (.int (0 : Int32))] [(.ref b1)])
          refine Go.callS X37 hx hZ hown (y := y_24) (w28 hw) (w29 hw) (w30 hw) (w31 hw) (by decide) (rm_nm_4 l Z a0 hw [] b1 sb30 skb30 scd30 szz30 svs30 u0 u1 u2 u3 0 csz vf T30.heap n0 O30 Es30 Fc30 Fv30 Vs30 Scs hcs Sf hvf Sas Shi Slo hb830 hD30 (by simp [own_nm, own_all, hc81_32, hc95_35, hc109_38])) e37 0 (by decide) (by decide) (by rw [hml]; rfl) (argsL := [(.ref b1)]) (rest := []) (lenOf pd_19 rfl) rfl rfl (Nat.le_of_eq rfl) (hb hby at_149) (c2 := 4) (s2 := 20) rfl rfl (by decide) (by decide) fun v39 T39 Lc39 L39 X39 l39 hQ39 => ?_
          obtain ⟨rfl, N39q, e39⟩ := hQ39
          have N39 : Fr n0 L39 := by rw [l39]; exact Fr.app N37 N39q
          refine Go.of (fun _ kz => XS.iload X39.here hx rfl (hb hby at_152) rfl kz) ?_
          refine Go.of (fun _ kz => XS.icmpNo X39.here hx rfl (hb hby at_154) rfl (teq (by decide : (0 : Int32) = (0 : Int32))).2 kz) ?_
          refine Go.of (fun _ kz => XS.iconst X39.here hx rfl (hb hby at_157) (XS.goto X39.here hx rfl (pc0 := 158) (pc' := 162) rfl (hb hby at_158) (by decide) (by decide) kz)) ?_
          refine Go.ret X39 (v := some (.int (1 : Int32))) (fun h => by rw [Bd.returns] at h; cases h) Bd.notSynchronized (fun fs hr => retN X39 hx (t := .boolean) Bd.returns (by simp) (hb hby at_162) hr) (by decide) (by decide) ?_
          show Q_rm0 Z _ _ _ _ _ _ _ _ _ _ _ _ _ _ h0 n0 _ T39.heap _
          rw [e39]
          exact ⟨rfl, N39⟩
        · refine Go.of (fun _ kz => XS.ifNo X37.here hx rfl (hb hby at_109) rfl ((if0 _ _).trans (feq hc109_38).1) kz) ?_
          refine Go.of (fun _ kz => XS.iload X37.here hx rfl (hb hby at_112) rfl (XS.iconst X37.here hx rfl (hb hby at_114) kz)) ?_
          refine Go.of (fun _ kz => XS.icmpNo X37.here hx rfl (hb hby at_115) rfl (flt (by decide : ¬ (4 : Int32) < (4 : Int32))).1 kz) ?_
          refine Go.of (fun _ kz => XS.iload X37.here hx rfl (hb hby at_118) rfl kz) ?_
          show Go _ _ _ _ _ T37 (mkF m 120 #[.val (.int pp), .val (.int aa0), .val (.int aa1), .val (.int aa2), .val (.int aa3), .val (.int aa4), .val (.int (4 : Int32)), .val (.int (own_ch u0)), .val (.int (own_ch u1)), .val (.int (own_ch u2)), .val (.int (own_ch u3)), .val (.int (own_ch u4)), .val (.ref b1), .unset] [(.int (own_ch u3))])
          refine Go.callS X37 hx hZ hown (y := y_23) (w115 hw) (w116 hw) (w7 hw) (w117 hw) (by decide) (rm_lat l Z a0 hw [] (own_ch u3) T30.heap n0 O30) e37 0 (by decide) (by decide) (by rw [hml]; rfl) (argsL := [(.int (own_ch u3))]) (rest := []) (lenOf pd_14 rfl) rfl rfl (Nat.le_of_eq rfl) (hb hby at_120) (c2 := 4) (s2 := 20) rfl rfl (by decide) (by decide) fun v40 T40 Lc40 L40 X40 l40 hQ40 => ?_
          obtain ⟨rfl, N40q, e40⟩ := hQ40
          have N40 : Fr n0 L40 := by rw [l40]; exact Fr.app N37 N40q
          by_cases hc123_41 : (own_ltr (own_ch u3)) = (0 : Int32)
          · refine Go.of (fun _ kz => XS.ifYes X40.here hx rfl (pc0 := 123) (pc' := 144) rfl (hb hby at_123) rfl ((if0 _ _).trans (teq hc123_41).1) (by decide) (by decide) kz) ?_
            refine Go.of (fun _ kz => XS.iconst X40.here hx rfl (hb hby at_144) (XS.istore X40.here hx rfl (hb hby at_145) rfl (l' := #[.val (.int pp), .val (.int aa0), .val (.int aa1), .val (.int aa2), .val (.int aa3), .val (.int aa4), .val (.int (4 : Int32)), .val (.int (own_ch u0)), .val (.int (own_ch u1)), .val (.int (own_ch u2)), .val (.int (own_ch u3)), .val (.int (own_ch u4)), .val (.ref b1), .val (.int (0 : Int32))]) rfl (XS.aload X40.here hx rfl (hb hby at_147) rfl rfl kz))) ?_
            show Go _ _ _ _ _ T40 (mkF m 149 #[.val (.int pp), .val (.int aa0), .val (.int aa1), .val (.int aa2), .val (.int aa3), .val (.int aa4), .val (.int (4 : Int32)), .val (.int (own_ch u0)), .val (.int (own_ch u1)), .val (.int (own_ch u2)), .val (.int (own_ch u3)), .val (.int (own_ch u4)), .val (.ref b1), .val (.int (0 : Int32))] [(.ref b1)])
            refine Go.callS X40 hx hZ hown (y := y_24) (w28 hw) (w29 hw) (w30 hw) (w31 hw) (by decide) (rm_nm_4 l Z a0 hw [] b1 sb30 skb30 scd30 szz30 svs30 u0 u1 u2 u3 0 csz vf T30.heap n0 O30 Es30 Fc30 Fv30 Vs30 Scs hcs Sf hvf Sas Shi Slo hb830 hD30 (by simp [own_nm, own_all, hc81_32, hc95_35, hc109_38, hc123_41])) e40 0 (by decide) (by decide) (by rw [hml]; rfl) (argsL := [(.ref b1)]) (rest := []) (lenOf pd_19 rfl) rfl rfl (Nat.le_of_eq rfl) (hb hby at_149) (c2 := 4) (s2 := 20) rfl rfl (by decide) (by decide) fun v42 T42 Lc42 L42 X42 l42 hQ42 => ?_
            obtain ⟨rfl, N42q, e42⟩ := hQ42
            have N42 : Fr n0 L42 := by rw [l42]; exact Fr.app N40 N42q
            refine Go.of (fun _ kz => XS.iload X42.here hx rfl (hb hby at_152) rfl kz) ?_
            refine Go.of (fun _ kz => XS.icmpNo X42.here hx rfl (hb hby at_154) rfl (teq (by decide : (0 : Int32) = (0 : Int32))).2 kz) ?_
            refine Go.of (fun _ kz => XS.iconst X42.here hx rfl (hb hby at_157) (XS.goto X42.here hx rfl (pc0 := 158) (pc' := 162) rfl (hb hby at_158) (by decide) (by decide) kz)) ?_
            refine Go.ret X42 (v := some (.int (1 : Int32))) (fun h => by rw [Bd.returns] at h; cases h) Bd.notSynchronized (fun fs hr => retN X42 hx (t := .boolean) Bd.returns (by simp) (hb hby at_162) hr) (by decide) (by decide) ?_
            show Q_rm0 Z _ _ _ _ _ _ _ _ _ _ _ _ _ _ h0 n0 _ T42.heap _
            rw [e42]
            exact ⟨rfl, N42⟩
          · refine Go.of (fun _ kz => XS.ifNo X40.here hx rfl (hb hby at_123) rfl ((if0 _ _).trans (feq hc123_41).1) kz) ?_
            refine Go.of (fun _ kz => XS.iload X40.here hx rfl (hb hby at_126) rfl (XS.iconst X40.here hx rfl (hb hby at_128) kz)) ?_
            refine Go.of (fun _ kz => XS.icmpYes X40.here hx rfl (pc0 := 129) (pc' := 140) rfl (hb hby at_129) rfl (tlt (by decide : (4 : Int32) < (5 : Int32))).1 (by decide) (by decide) kz) ?_
            refine Go.of (fun _ kz => XS.iconst X40.here hx rfl (hb hby at_140) (XS.goto X40.here hx rfl (pc0 := 141) (pc' := 145) rfl (hb hby at_141) (by decide) (by decide) (XS.istore X40.here hx rfl (hb hby at_145) rfl (l' := #[.val (.int pp), .val (.int aa0), .val (.int aa1), .val (.int aa2), .val (.int aa3), .val (.int aa4), .val (.int (4 : Int32)), .val (.int (own_ch u0)), .val (.int (own_ch u1)), .val (.int (own_ch u2)), .val (.int (own_ch u3)), .val (.int (own_ch u4)), .val (.ref b1), .val (.int (1 : Int32))]) rfl (XS.aload X40.here hx rfl (hb hby at_147) rfl rfl kz)))) ?_
            show Go _ _ _ _ _ T40 (mkF m 149 #[.val (.int pp), .val (.int aa0), .val (.int aa1), .val (.int aa2), .val (.int aa3), .val (.int aa4), .val (.int (4 : Int32)), .val (.int (own_ch u0)), .val (.int (own_ch u1)), .val (.int (own_ch u2)), .val (.int (own_ch u3)), .val (.int (own_ch u4)), .val (.ref b1), .val (.int (1 : Int32))] [(.ref b1)])
            refine Go.callS X40 hx hZ hown (y := y_24) (w28 hw) (w29 hw) (w30 hw) (w31 hw) (by decide) (rm_nm_4 l Z a0 hw [] b1 sb30 skb30 scd30 szz30 svs30 u0 u1 u2 u3 1 csz vf T30.heap n0 O30 Es30 Fc30 Fv30 Vs30 Scs hcs Sf hvf Sas Shi Slo hb830 hD30 (by simp [own_nm, own_all, hc81_32, hc95_35, hc109_38, hc123_41])) e40 0 (by decide) (by decide) (by rw [hml]; rfl) (argsL := [(.ref b1)]) (rest := []) (lenOf pd_19 rfl) rfl rfl (Nat.le_of_eq rfl) (hb hby at_149) (c2 := 4) (s2 := 20) rfl rfl (by decide) (by decide) fun v43 T43 Lc43 L43 X43 l43 hQ43 => ?_
            obtain ⟨rfl, N43q, e43⟩ := hQ43
            have N43 : Fr n0 L43 := by rw [l43]; exact Fr.app N40 N43q
            refine Go.of (fun _ kz => XS.iload X43.here hx rfl (hb hby at_152) rfl kz) ?_
            refine Go.of (fun _ kz => XS.icmpNo X43.here hx rfl (hb hby at_154) rfl (teq (by decide : (1 : Int32) = (1 : Int32))).2 kz) ?_
            refine Go.of (fun _ kz => XS.iconst X43.here hx rfl (hb hby at_157) (XS.goto X43.here hx rfl (pc0 := 158) (pc' := 162) rfl (hb hby at_158) (by decide) (by decide) kz)) ?_
            refine Go.ret X43 (v := some (.int (1 : Int32))) (fun h => by rw [Bd.returns] at h; cases h) Bd.notSynchronized (fun fs hr => retN X43 hx (t := .boolean) Bd.returns (by simp) (hb hby at_162) hr) (by decide) (by decide) ?_
            show Q_rm0 Z _ _ _ _ _ _ _ _ _ _ _ _ _ _ h0 n0 _ T43.heap _
            rw [e43]
            exact ⟨rfl, N43⟩
  · show Go _ _ _ _ _ T1 (mkF m 62 #[.val (.int pp), .val (.int aa0), .val (.int aa1), .val (.int aa2), .val (.int aa3), .val (.int aa4), .val (.int (5 : Int32)), .val (.int (own_ch u0)), .val (.int (own_ch u1)), .val (.int (own_ch u2)), .val (.int (own_ch u3)), .val (.int (own_ch u4)), .unset, .unset] [(.int (own_ch u4)), (.int (own_ch u3)), (.int (own_ch u2)), (.int (own_ch u1)), (.int (own_ch u0)), (.int (5 : Int32)), (.ref b1), (.ref b1)])
    refine Go.callS X1 hx hZ hown (y := y_25) (w5 hw) (w6 hw) (w7 hw) (w8 hw) (by decide) (rm_mk_5 l Z a0 hw [] u0 u1 u2 u3 u4 h1 n0 O1) e1 2 (by decide) (by decide) (by rw [hml]; rfl) (argsL := [(.int (5 : Int32)), (.int (own_ch u0)), (.int (own_ch u1)), (.int (own_ch u2)), (.int (own_ch u3)), (.int (own_ch u4))]) (rest := [(.ref b1), (.ref b1)]) (lenOf pd_17 rfl) rfl rfl (Nat.le_of_eq rfl) (hb hby at_62) (c2 := 2) (s2 := 9) rfl rfl (by decide) (by decide) fun v44 T44 Lc44 L44 X44 l44 hQ44 => ?_
    obtain ⟨b44, kc44, rfl, N44q, K44, hsz44, V44⟩ := hQ44
    have N44 : Fr n0 L44 := by rw [l44]; exact Fr.app N0 N44q
    have ge_b44 : n0 ≤ b44 := Nat.le_trans (O1.1 ▸ O1.2.1) hsz44
    have ne_b44 : b44 ≠ b1 := fun q => Nat.ne_of_lt (Nat.lt_of_lt_of_le A1.lt hsz44) q.symm
    have f44_Exa_b1 := A1.keep K44
    have f44_Fld_b1_value := F1_value.keep K44 nin0
    have f44_Fld_b1_coder := F1_coder.keep K44 nin0
    have O44 := O1.keep K44 all0
    show Go _ _ _ _ _ T44 (mkF m 65 #[.val (.int pp), .val (.int aa0), .val (.int aa1), .val (.int aa2), .val (.int aa3), .val (.int aa4), .val (.int (5 : Int32)), .val (.int (own_ch u0)), .val (.int (own_ch u1)), .val (.int (own_ch u2)), .val (.int (own_ch u3)), .val (.int (own_ch u4)), .unset, .unset] [(.ref b44), (.ref b1), (.ref b1)])
    refine Go.callI X44 hx hZ hown (y := y_20) rfl (w10 hw) (w11 hw) (w4 hw) (w12 hw) (by decide) (a := b1) (rm_in1_5 l Z a0 hw [] b1 b44 kc44 u0 u1 u2 u3 u4 csz T44.heap n0 O44 f44_Exa_b1 f44_Fld_b1_value f44_Fld_b1_coder ge_b1 ne_b44 V44 Sas Shi Slo Scs hcs) rfl 1 (by decide) (by decide) (by rw [hml]; rfl) (argsL := [(.ref b44)]) (rest := [(.ref b1)]) (lenOf pd_18 rfl) rfl rfl (Nat.le_of_eq rfl) (hb hby at_65) (c2 := 4) (s2 := 24) rfl rfl (by decide) (by decide) fun v45 T45 Lc45 L45 X45 l45 hQ45 => ?_
    obtain ⟨rfl, N45q, K45, Es45, sb45, skb45, scd45, szz45, svs45, Fv45, Fc45, Vs45, hb845, hD45⟩ := hQ45
    have N45 : Fr n0 L45 := by rw [l45]; exact Fr.app N44 N45q
    have f45_Exa_b1 := f44_Exa_b1.keep K45
    have f45_Arv_b44 := V44.keep K45 (ninS ne_b44 nin0)
    have O45 := O44.keep K45 (allS ge_b1 all0)
    refine Go.of (fun _ kz => XS.astore X45.here hx rfl (hb hby at_68) rfl rfl (l' := #[.val (.int pp), .val (.int aa0), .val (.int aa1), .val (.int aa2), .val (.int aa3), .val (.int aa4), .val (.int (5 : Int32)), .val (.int (own_ch u0)), .val (.int (own_ch u1)), .val (.int (own_ch u2)), .val (.int (own_ch u3)), .val (.int (own_ch u4)), .val (.ref b1), .unset]) rfl (XS.iload X45.here hx rfl (hb hby at_70) rfl (XS.iconst X45.here hx rfl (hb hby at_72) kz))) ?_
    refine Go.of (fun _ kz => XS.icmpNo X45.here hx rfl (hb hby at_73) rfl (flt (by decide : ¬ (5 : Int32) < (1 : Int32))).1 kz) ?_
    refine Go.of (fun _ kz => XS.iload X45.here hx rfl (hb hby at_76) rfl kz) ?_
    show Go _ _ _ _ _ T45 (mkF m 78 #[.val (.int pp), .val (.int aa0), .val (.int aa1), .val (.int aa2), .val (.int aa3), .val (.int aa4), .val (.int (5 : Int32)), .val (.int (own_ch u0)), .val (.int (own_ch u1)), .val (.int (own_ch u2)), .val (.int (own_ch u3)), .val (.int (own_ch u4)), .val (.ref b1), .unset] [(.int (own_ch u0))])
    refine Go.callS X45 hx hZ hown (y := y_22) (w48 hw) (w49 hw) (w7 hw) (w50 hw) (by decide) (rm_ltt l Z a0 hw [] (own_ch u0) T45.heap n0 O45) rfl 0 (by decide) (by decide) (by rw [hml]; rfl) (argsL := [(.int (own_ch u0))]) (rest := []) (lenOf pd_14 rfl) rfl rfl (Nat.le_of_eq rfl) (hb hby at_78) (c2 := 4) (s2 := 24) rfl rfl (by decide) (by decide) fun v46 T46 Lc46 L46 X46 l46 hQ46 => ?_
    obtain ⟨rfl, N46q, e46⟩ := hQ46
    have N46 : Fr n0 L46 := by rw [l46]; exact Fr.app N45 N46q
    by_cases hc81_47 : (own_let (own_ch u0)) = (0 : Int32)
    · refine Go.of (fun _ kz => XS.ifYes X46.here hx rfl (pc0 := 81) (pc' := 144) rfl (hb hby at_81) rfl ((if0 _ _).trans (teq hc81_47).1) (by decide) (by decide) kz) ?_
      refine Go.of (fun _ kz => XS.iconst X46.here hx rfl (hb hby at_144) (XS.istore X46.here hx rfl (hb hby at_145) rfl (l' := #[.val (.int pp), .val (.int aa0), .val (.int aa1), .val (.int aa2), .val (.int aa3), .val (.int aa4), .val (.int (5 : Int32)), .val (.int (own_ch u0)), .val (.int (own_ch u1)), .val (.int (own_ch u2)), .val (.int (own_ch u3)), .val (.int (own_ch u4)), .val (.ref b1), .val (.int (0 : Int32))]) rfl (XS.aload X46.here hx rfl (hb hby at_147) rfl rfl kz))) ?_
      show Go _ _ _ _ _ T46 (mkF m 149 #[.val (.int pp), .val (.int aa0), .val (.int aa1), .val (.int aa2), .val (.int aa3), .val (.int aa4), .val (.int (5 : Int32)), .val (.int (own_ch u0)), .val (.int (own_ch u1)), .val (.int (own_ch u2)), .val (.int (own_ch u3)), .val (.int (own_ch u4)), .val (.ref b1), .val (.int (0 : Int32))] [(.ref b1)])
      refine Go.callS X46 hx hZ hown (y := y_24) (w28 hw) (w29 hw) (w30 hw) (w31 hw) (by decide) (rm_nm_5 l Z a0 hw [] b1 sb45 skb45 scd45 szz45 svs45 u0 u1 u2 u3 u4 0 csz vf T45.heap n0 O45 Es45 Fc45 Fv45 Vs45 Scs hcs Sf hvf Sas Shi Slo hb845 hD45 (by simp [own_nm, own_all, hc81_47])) e46 0 (by decide) (by decide) (by rw [hml]; rfl) (argsL := [(.ref b1)]) (rest := []) (lenOf pd_19 rfl) rfl rfl (Nat.le_of_eq rfl) (hb hby at_149) (c2 := 4) (s2 := 24) rfl rfl (by decide) (by decide) fun v48 T48 Lc48 L48 X48 l48 hQ48 => ?_
      obtain ⟨rfl, N48q, e48⟩ := hQ48
      have N48 : Fr n0 L48 := by rw [l48]; exact Fr.app N46 N48q
      refine Go.of (fun _ kz => XS.iload X48.here hx rfl (hb hby at_152) rfl kz) ?_
      refine Go.of (fun _ kz => XS.icmpNo X48.here hx rfl (hb hby at_154) rfl (teq (by decide : (0 : Int32) = (0 : Int32))).2 kz) ?_
      refine Go.of (fun _ kz => XS.iconst X48.here hx rfl (hb hby at_157) (XS.goto X48.here hx rfl (pc0 := 158) (pc' := 162) rfl (hb hby at_158) (by decide) (by decide) kz)) ?_
      refine Go.ret X48 (v := some (.int (1 : Int32))) (fun h => by rw [Bd.returns] at h; cases h) Bd.notSynchronized (fun fs hr => retN X48 hx (t := .boolean) Bd.returns (by simp) (hb hby at_162) hr) (by decide) (by decide) ?_
      show Q_rm0 Z _ _ _ _ _ _ _ _ _ _ _ _ _ _ h0 n0 _ T48.heap _
      rw [e48]
      exact ⟨rfl, N48⟩
    · refine Go.of (fun _ kz => XS.ifNo X46.here hx rfl (hb hby at_81) rfl ((if0 _ _).trans (feq hc81_47).1) kz) ?_
      refine Go.of (fun _ kz => XS.iload X46.here hx rfl (hb hby at_84) rfl (XS.iconst X46.here hx rfl (hb hby at_86) kz)) ?_
      refine Go.of (fun _ kz => XS.icmpNo X46.here hx rfl (hb hby at_87) rfl (flt (by decide : ¬ (5 : Int32) < (2 : Int32))).1 kz) ?_
      refine Go.of (fun _ kz => XS.iload X46.here hx rfl (hb hby at_90) rfl kz) ?_
      show Go _ _ _ _ _ T46 (mkF m 92 #[.val (.int pp), .val (.int aa0), .val (.int aa1), .val (.int aa2), .val (.int aa3), .val (.int aa4), .val (.int (5 : Int32)), .val (.int (own_ch u0)), .val (.int (own_ch u1)), .val (.int (own_ch u2)), .val (.int (own_ch u3)), .val (.int (own_ch u4)), .val (.ref b1), .unset] [(.int (own_ch u1))])
      refine Go.callS X46 hx hZ hown (y := y_23) (w115 hw) (w116 hw) (w7 hw) (w117 hw) (by decide) (rm_lat l Z a0 hw [] (own_ch u1) T45.heap n0 O45) e46 0 (by decide) (by decide) (by rw [hml]; rfl) (argsL := [(.int (own_ch u1))]) (rest := []) (lenOf pd_14 rfl) rfl rfl (Nat.le_of_eq rfl) (hb hby at_92) (c2 := 4) (s2 := 24) rfl rfl (by decide) (by decide) fun v49 T49 Lc49 L49 X49 l49 hQ49 => ?_
      obtain ⟨rfl, N49q, e49⟩ := hQ49
      have N49 : Fr n0 L49 := by rw [l49]; exact Fr.app N46 N49q
      by_cases hc95_50 : (own_ltr (own_ch u1)) = (0 : Int32)
      · refine Go.of (fun _ kz => XS.ifYes X49.here hx rfl (pc0 := 95) (pc' := 144) rfl (hb hby at_95) rfl ((if0 _ _).trans (teq hc95_50).1) (by decide) (by decide) kz) ?_
        refine Go.of (fun _ kz => XS.iconst X49.here hx rfl (hb hby at_144) (XS.istore X49.here hx rfl (hb hby at_145) rfl (l' := #[.val (.int pp), .val (.int aa0), .val (.int aa1), .val (.int aa2), .val (.int aa3), .val (.int aa4), .val (.int (5 : Int32)), .val (.int (own_ch u0)), .val (.int (own_ch u1)), .val (.int (own_ch u2)), .val (.int (own_ch u3)), .val (.int (own_ch u4)), .val (.ref b1), .val (.int (0 : Int32))]) rfl (XS.aload X49.here hx rfl (hb hby at_147) rfl rfl kz))) ?_
        show Go _ _ _ _ _ T49 (mkF m 149 #[.val (.int pp), .val (.int aa0), .val (.int aa1), .val (.int aa2), .val (.int aa3), .val (.int aa4), .val (.int (5 : Int32)), .val (.int (own_ch u0)), .val (.int (own_ch u1)), .val (.int (own_ch u2)), .val (.int (own_ch u3)), .val (.int (own_ch u4)), .val (.ref b1), .val (.int (0 : Int32))] [(.ref b1)])
        refine Go.callS X49 hx hZ hown (y := y_24) (w28 hw) (w29 hw) (w30 hw) (w31 hw) (by decide) (rm_nm_5 l Z a0 hw [] b1 sb45 skb45 scd45 szz45 svs45 u0 u1 u2 u3 u4 0 csz vf T45.heap n0 O45 Es45 Fc45 Fv45 Vs45 Scs hcs Sf hvf Sas Shi Slo hb845 hD45 (by simp [own_nm, own_all, hc81_47, hc95_50])) e49 0 (by decide) (by decide) (by rw [hml]; rfl) (argsL := [(.ref b1)]) (rest := []) (lenOf pd_19 rfl) rfl rfl (Nat.le_of_eq rfl) (hb hby at_149) (c2 := 4) (s2 := 24) rfl rfl (by decide) (by decide) fun v51 T51 Lc51 L51 X51 l51 hQ51 => ?_
        obtain ⟨rfl, N51q, e51⟩ := hQ51
        have N51 : Fr n0 L51 := by rw [l51]; exact Fr.app N49 N51q
        refine Go.of (fun _ kz => XS.iload X51.here hx rfl (hb hby at_152) rfl kz) ?_
        refine Go.of (fun _ kz => XS.icmpNo X51.here hx rfl (hb hby at_154) rfl (teq (by decide : (0 : Int32) = (0 : Int32))).2 kz) ?_
        refine Go.of (fun _ kz => XS.iconst X51.here hx rfl (hb hby at_157) (XS.goto X51.here hx rfl (pc0 := 158) (pc' := 162) rfl (hb hby at_158) (by decide) (by decide) kz)) ?_
        refine Go.ret X51 (v := some (.int (1 : Int32))) (fun h => by rw [Bd.returns] at h; cases h) Bd.notSynchronized (fun fs hr => retN X51 hx (t := .boolean) Bd.returns (by simp) (hb hby at_162) hr) (by decide) (by decide) ?_
        show Q_rm0 Z _ _ _ _ _ _ _ _ _ _ _ _ _ _ h0 n0 _ T51.heap _
        rw [e51]
        exact ⟨rfl, N51⟩
      · refine Go.of (fun _ kz => XS.ifNo X49.here hx rfl (hb hby at_95) rfl ((if0 _ _).trans (feq hc95_50).1) kz) ?_
        refine Go.of (fun _ kz => XS.iload X49.here hx rfl (hb hby at_98) rfl (XS.iconst X49.here hx rfl (hb hby at_100) kz)) ?_
        refine Go.of (fun _ kz => XS.icmpNo X49.here hx rfl (hb hby at_101) rfl (flt (by decide : ¬ (5 : Int32) < (3 : Int32))).1 kz) ?_
        refine Go.of (fun _ kz => XS.iload X49.here hx rfl (hb hby at_104) rfl kz) ?_
        show Go _ _ _ _ _ T49 (mkF m 106 #[.val (.int pp), .val (.int aa0), .val (.int aa1), .val (.int aa2), .val (.int aa3), .val (.int aa4), .val (.int (5 : Int32)), .val (.int (own_ch u0)), .val (.int (own_ch u1)), .val (.int (own_ch u2)), .val (.int (own_ch u3)), .val (.int (own_ch u4)), .val (.ref b1), .unset] [(.int (own_ch u2))])
        refine Go.callS X49 hx hZ hown (y := y_23) (w115 hw) (w116 hw) (w7 hw) (w117 hw) (by decide) (rm_lat l Z a0 hw [] (own_ch u2) T45.heap n0 O45) e49 0 (by decide) (by decide) (by rw [hml]; rfl) (argsL := [(.int (own_ch u2))]) (rest := []) (lenOf pd_14 rfl) rfl rfl (Nat.le_of_eq rfl) (hb hby at_106) (c2 := 4) (s2 := 24) rfl rfl (by decide) (by decide) fun v52 T52 Lc52 L52 X52 l52 hQ52 => ?_
        obtain ⟨rfl, N52q, e52⟩ := hQ52
        have N52 : Fr n0 L52 := by rw [l52]; exact Fr.app N49 N52q
        by_cases hc109_53 : (own_ltr (own_ch u2)) = (0 : Int32)
        · refine Go.of (fun _ kz => XS.ifYes X52.here hx rfl (pc0 := 109) (pc' := 144) rfl (hb hby at_109) rfl ((if0 _ _).trans (teq hc109_53).1) (by decide) (by decide) kz) ?_
          refine Go.of (fun _ kz => XS.iconst X52.here hx rfl (hb hby at_144) (XS.istore X52.here hx rfl (hb hby at_145) rfl (l' := #[.val (.int pp), .val (.int aa0), .val (.int aa1), .val (.int aa2), .val (.int aa3), .val (.int aa4), .val (.int (5 : Int32)), .val (.int (own_ch u0)), .val (.int (own_ch u1)), .val (.int (own_ch u2)), .val (.int (own_ch u3)), .val (.int (own_ch u4)), .val (.ref b1), .val (.int (0 : Int32))]) rfl (XS.aload X52.here hx rfl (hb hby at_147) rfl rfl kz))) ?_
          show Go _ _ _ _ _ T52 (mkF m 149 #[.val (.int pp), .val (.int aa0), .val (.int aa1), .val (.int aa2), .val (.int aa3), .val (.int aa4), .val (.int (5 : Int32)), .val (.int (own_ch u0)), .val (.int (own_ch u1)), .val (.int (own_ch u2)), .val (.int (own_ch u3)), .val (.int (own_ch u4)), .val (.ref b1), .val (.int (0 : Int32))] [(.ref b1)])
          refine Go.callS X52 hx hZ hown (y := y_24) (w28 hw) (w29 hw) (w30 hw) (w31 hw) (by decide) (rm_nm_5 l Z a0 hw [] b1 sb45 skb45 scd45 szz45 svs45 u0 u1 u2 u3 u4 0 csz vf T45.heap n0 O45 Es45 Fc45 Fv45 Vs45 Scs hcs Sf hvf Sas Shi Slo hb845 hD45 (by simp [own_nm, own_all, hc81_47, hc95_50, hc109_53])) e52 0 (by decide) (by decide) (by rw [hml]; rfl) (argsL := [(.ref b1)]) (rest := []) (lenOf pd_19 rfl) rfl rfl (Nat.le_of_eq rfl) (hb hby at_149) (c2 := 4) (s2 := 24) rfl rfl (by decide) (by decide) fun v54 T54 Lc54 L54 X54 l54 hQ54 => ?_
          obtain ⟨rfl, N54q, e54⟩ := hQ54
          have N54 : Fr n0 L54 := by rw [l54]; exact Fr.app N52 N54q
          refine Go.of (fun _ kz => XS.iload X54.here hx rfl (hb hby at_152) rfl kz) ?_
          refine Go.of (fun _ kz => XS.icmpNo X54.here hx rfl (hb hby at_154) rfl (teq (by decide : (0 : Int32) = (0 : Int32))).2 kz) ?_
          refine Go.of (fun _ kz => XS.iconst X54.here hx rfl (hb hby at_157) (XS.goto X54.here hx rfl (pc0 := 158) (pc' := 162) rfl (hb hby at_158) (by decide) (by decide) kz)) ?_
          refine Go.ret X54 (v := some (.int (1 : Int32))) (fun h => by rw [Bd.returns] at h; cases h) Bd.notSynchronized (fun fs hr => retN X54 hx (t := .boolean) Bd.returns (by simp) (hb hby at_162) hr) (by decide) (by decide) ?_
          show Q_rm0 Z _ _ _ _ _ _ _ _ _ _ _ _ _ _ h0 n0 _ T54.heap _
          rw [e54]
          exact ⟨rfl, N54⟩
        · refine Go.of (fun _ kz => XS.ifNo X52.here hx rfl (hb hby at_109) rfl ((if0 _ _).trans (feq hc109_53).1) kz) ?_
          refine Go.of (fun _ kz => XS.iload X52.here hx rfl (hb hby at_112) rfl (XS.iconst X52.here hx rfl (hb hby at_114) kz)) ?_
          refine Go.of (fun _ kz => XS.icmpNo X52.here hx rfl (hb hby at_115) rfl (flt (by decide : ¬ (5 : Int32) < (4 : Int32))).1 kz) ?_
          refine Go.of (fun _ kz => XS.iload X52.here hx rfl (hb hby at_118) rfl kz) ?_
          show Go _ _ _ _ _ T52 (mkF m 120 #[.val (.int pp), .val (.int aa0), .val (.int aa1), .val (.int aa2), .val (.int aa3), .val (.int aa4), .val (.int (5 : Int32)), .val (.int (own_ch u0)), .val (.int (own_ch u1)), .val (.int (own_ch u2)), .val (.int (own_ch u3)), .val (.int (own_ch u4)), .val (.ref b1), .unset] [(.int (own_ch u3))])
          refine Go.callS X52 hx hZ hown (y := y_23) (w115 hw) (w116 hw) (w7 hw) (w117 hw) (by decide) (rm_lat l Z a0 hw [] (own_ch u3) T45.heap n0 O45) e52 0 (by decide) (by decide) (by rw [hml]; rfl) (argsL := [(.int (own_ch u3))]) (rest := []) (lenOf pd_14 rfl) rfl rfl (Nat.le_of_eq rfl) (hb hby at_120) (c2 := 4) (s2 := 24) rfl rfl (by decide) (by decide) fun v55 T55 Lc55 L55 X55 l55 hQ55 => ?_
          obtain ⟨rfl, N55q, e55⟩ := hQ55
          have N55 : Fr n0 L55 := by rw [l55]; exact Fr.app N52 N55q
          by_cases hc123_56 : (own_ltr (own_ch u3)) = (0 : Int32)
          · refine Go.of (fun _ kz => XS.ifYes X55.here hx rfl (pc0 := 123) (pc' := 144) rfl (hb hby at_123) rfl ((if0 _ _).trans (teq hc123_56).1) (by decide) (by decide) kz) ?_
            refine Go.of (fun _ kz => XS.iconst X55.here hx rfl (hb hby at_144) (XS.istore X55.here hx rfl (hb hby at_145) rfl (l' := #[.val (.int pp), .val (.int aa0), .val (.int aa1), .val (.int aa2), .val (.int aa3), .val (.int aa4), .val (.int (5 : Int32)), .val (.int (own_ch u0)), .val (.int (own_ch u1)), .val (.int (own_ch u2)), .val (.int (own_ch u3)), .val (.int (own_ch u4)), .val (.ref b1), .val (.int (0 : Int32))]) rfl (XS.aload X55.here hx rfl (hb hby at_147) rfl rfl kz))) ?_
            show Go _ _ _ _ _ T55 (mkF m 149 #[.val (.int pp), .val (.int aa0), .val (.int aa1), .val (.int aa2), .val (.int aa3), .val (.int aa4), .val (.int (5 : Int32)), .val (.int (own_ch u0)), .val (.int (own_ch u1)), .val (.int (own_ch u2)), .val (.int (own_ch u3)), .val (.int (own_ch u4)), .val (.ref b1), .val (.int (0 : Int32))] [(.ref b1)])
            refine Go.callS X55 hx hZ hown (y := y_24) (w28 hw) (w29 hw) (w30 hw) (w31 hw) (by decide) (rm_nm_5 l Z a0 hw [] b1 sb45 skb45 scd45 szz45 svs45 u0 u1 u2 u3 u4 0 csz vf T45.heap n0 O45 Es45 Fc45 Fv45 Vs45 Scs hcs Sf hvf Sas Shi Slo hb845 hD45 (by simp [own_nm, own_all, hc81_47, hc95_50, hc109_53, hc123_56])) e55 0 (by decide) (by decide) (by rw [hml]; rfl) (argsL := [(.ref b1)]) (rest := []) (lenOf pd_19 rfl) rfl rfl (Nat.le_of_eq rfl) (hb hby at_149) (c2 := 4) (s2 := 24) rfl rfl (by decide) (by decide) fun v57 T57 Lc57 L57 X57 l57 hQ57 => ?_
            obtain ⟨rfl, N57q, e57⟩ := hQ57
            have N57 : Fr n0 L57 := by rw [l57]; exact Fr.app N55 N57q
            refine Go.of (fun _ kz => XS.iload X57.here hx rfl (hb hby at_152) rfl kz) ?_
            refine Go.of (fun _ kz => XS.icmpNo X57.here hx rfl (hb hby at_154) rfl (teq (by decide : (0 : Int32) = (0 : Int32))).2 kz) ?_
            refine Go.of (fun _ kz => XS.iconst X57.here hx rfl (hb hby at_157) (XS.goto X57.here hx rfl (pc0 := 158) (pc' := 162) rfl (hb hby at_158) (by decide) (by decide) kz)) ?_
            refine Go.ret X57 (v := some (.int (1 : Int32))) (fun h => by rw [Bd.returns] at h; cases h) Bd.notSynchronized (fun fs hr => retN X57 hx (t := .boolean) Bd.returns (by simp) (hb hby at_162) hr) (by decide) (by decide) ?_
            show Q_rm0 Z _ _ _ _ _ _ _ _ _ _ _ _ _ _ h0 n0 _ T57.heap _
            rw [e57]
            exact ⟨rfl, N57⟩
          · refine Go.of (fun _ kz => XS.ifNo X55.here hx rfl (hb hby at_123) rfl ((if0 _ _).trans (feq hc123_56).1) kz) ?_
            refine Go.of (fun _ kz => XS.iload X55.here hx rfl (hb hby at_126) rfl (XS.iconst X55.here hx rfl (hb hby at_128) kz)) ?_
            refine Go.of (fun _ kz => XS.icmpNo X55.here hx rfl (hb hby at_129) rfl (flt (by decide : ¬ (5 : Int32) < (5 : Int32))).1 kz) ?_
            refine Go.of (fun _ kz => XS.iload X55.here hx rfl (hb hby at_132) rfl kz) ?_
            show Go _ _ _ _ _ T55 (mkF m 134 #[.val (.int pp), .val (.int aa0), .val (.int aa1), .val (.int aa2), .val (.int aa3), .val (.int aa4), .val (.int (5 : Int32)), .val (.int (own_ch u0)), .val (.int (own_ch u1)), .val (.int (own_ch u2)), .val (.int (own_ch u3)), .val (.int (own_ch u4)), .val (.ref b1), .unset] [(.int (own_ch u4))])
            refine Go.callS X55 hx hZ hown (y := y_23) (w115 hw) (w116 hw) (w7 hw) (w117 hw) (by decide) (rm_lat l Z a0 hw [] (own_ch u4) T45.heap n0 O45) e55 0 (by decide) (by decide) (by rw [hml]; rfl) (argsL := [(.int (own_ch u4))]) (rest := []) (lenOf pd_14 rfl) rfl rfl (Nat.le_of_eq rfl) (hb hby at_134) (c2 := 4) (s2 := 24) rfl rfl (by decide) (by decide) fun v58 T58 Lc58 L58 X58 l58 hQ58 => ?_
            obtain ⟨rfl, N58q, e58⟩ := hQ58
            have N58 : Fr n0 L58 := by rw [l58]; exact Fr.app N55 N58q
            by_cases hc137_59 : (own_ltr (own_ch u4)) = (0 : Int32)
            · refine Go.of (fun _ kz => XS.ifYes X58.here hx rfl (pc0 := 137) (pc' := 144) rfl (hb hby at_137) rfl ((if0 _ _).trans (teq hc137_59).1) (by decide) (by decide) kz) ?_
              refine Go.of (fun _ kz => XS.iconst X58.here hx rfl (hb hby at_144) (XS.istore X58.here hx rfl (hb hby at_145) rfl (l' := #[.val (.int pp), .val (.int aa0), .val (.int aa1), .val (.int aa2), .val (.int aa3), .val (.int aa4), .val (.int (5 : Int32)), .val (.int (own_ch u0)), .val (.int (own_ch u1)), .val (.int (own_ch u2)), .val (.int (own_ch u3)), .val (.int (own_ch u4)), .val (.ref b1), .val (.int (0 : Int32))]) rfl (XS.aload X58.here hx rfl (hb hby at_147) rfl rfl kz))) ?_
              show Go _ _ _ _ _ T58 (mkF m 149 #[.val (.int pp), .val (.int aa0), .val (.int aa1), .val (.int aa2), .val (.int aa3), .val (.int aa4), .val (.int (5 : Int32)), .val (.int (own_ch u0)), .val (.int (own_ch u1)), .val (.int (own_ch u2)), .val (.int (own_ch u3)), .val (.int (own_ch u4)), .val (.ref b1), .val (.int (0 : Int32))] [(.ref b1)])
              refine Go.callS X58 hx hZ hown (y := y_24) (w28 hw) (w29 hw) (w30 hw) (w31 hw) (by decide) (rm_nm_5 l Z a0 hw [] b1 sb45 skb45 scd45 szz45 svs45 u0 u1 u2 u3 u4 0 csz vf T45.heap n0 O45 Es45 Fc45 Fv45 Vs45 Scs hcs Sf hvf Sas Shi Slo hb845 hD45 (by simp [own_nm, own_all, hc81_47, hc95_50, hc109_53, hc123_56, hc137_59])) e58 0 (by decide) (by decide) (by rw [hml]; rfl) (argsL := [(.ref b1)]) (rest := []) (lenOf pd_19 rfl) rfl rfl (Nat.le_of_eq rfl) (hb hby at_149) (c2 := 4) (s2 := 24) rfl rfl (by decide) (by decide) fun v60 T60 Lc60 L60 X60 l60 hQ60 => ?_
              obtain ⟨rfl, N60q, e60⟩ := hQ60
              have N60 : Fr n0 L60 := by rw [l60]; exact Fr.app N58 N60q
              refine Go.of (fun _ kz => XS.iload X60.here hx rfl (hb hby at_152) rfl kz) ?_
              refine Go.of (fun _ kz => XS.icmpNo X60.here hx rfl (hb hby at_154) rfl (teq (by decide : (0 : Int32) = (0 : Int32))).2 kz) ?_
              refine Go.of (fun _ kz => XS.iconst X60.here hx rfl (hb hby at_157) (XS.goto X60.here hx rfl (pc0 := 158) (pc' := 162) rfl (hb hby at_158) (by decide) (by decide) kz)) ?_
              refine Go.ret X60 (v := some (.int (1 : Int32))) (fun h => by rw [Bd.returns] at h; cases h) Bd.notSynchronized (fun fs hr => retN X60 hx (t := .boolean) Bd.returns (by simp) (hb hby at_162) hr) (by decide) (by decide) ?_
              show Q_rm0 Z _ _ _ _ _ _ _ _ _ _ _ _ _ _ h0 n0 _ T60.heap _
              rw [e60]
              exact ⟨rfl, N60⟩
            · refine Go.of (fun _ kz => XS.ifNo X58.here hx rfl (hb hby at_137) rfl ((if0 _ _).trans (feq hc137_59).1) kz) ?_
              refine Go.of (fun _ kz => XS.iconst X58.here hx rfl (hb hby at_140) (XS.goto X58.here hx rfl (pc0 := 141) (pc' := 145) rfl (hb hby at_141) (by decide) (by decide) (XS.istore X58.here hx rfl (hb hby at_145) rfl (l' := #[.val (.int pp), .val (.int aa0), .val (.int aa1), .val (.int aa2), .val (.int aa3), .val (.int aa4), .val (.int (5 : Int32)), .val (.int (own_ch u0)), .val (.int (own_ch u1)), .val (.int (own_ch u2)), .val (.int (own_ch u3)), .val (.int (own_ch u4)), .val (.ref b1), .val (.int (1 : Int32))]) rfl (XS.aload X58.here hx rfl (hb hby at_147) rfl rfl kz)))) ?_
              show Go _ _ _ _ _ T58 (mkF m 149 #[.val (.int pp), .val (.int aa0), .val (.int aa1), .val (.int aa2), .val (.int aa3), .val (.int aa4), .val (.int (5 : Int32)), .val (.int (own_ch u0)), .val (.int (own_ch u1)), .val (.int (own_ch u2)), .val (.int (own_ch u3)), .val (.int (own_ch u4)), .val (.ref b1), .val (.int (1 : Int32))] [(.ref b1)])
              refine Go.callS X58 hx hZ hown (y := y_24) (w28 hw) (w29 hw) (w30 hw) (w31 hw) (by decide) (rm_nm_5 l Z a0 hw [] b1 sb45 skb45 scd45 szz45 svs45 u0 u1 u2 u3 u4 1 csz vf T45.heap n0 O45 Es45 Fc45 Fv45 Vs45 Scs hcs Sf hvf Sas Shi Slo hb845 hD45 (by simp [own_nm, own_all, hc81_47, hc95_50, hc109_53, hc123_56, hc137_59])) e58 0 (by decide) (by decide) (by rw [hml]; rfl) (argsL := [(.ref b1)]) (rest := []) (lenOf pd_19 rfl) rfl rfl (Nat.le_of_eq rfl) (hb hby at_149) (c2 := 4) (s2 := 24) rfl rfl (by decide) (by decide) fun v61 T61 Lc61 L61 X61 l61 hQ61 => ?_
              obtain ⟨rfl, N61q, e61⟩ := hQ61
              have N61 : Fr n0 L61 := by rw [l61]; exact Fr.app N58 N61q
              refine Go.of (fun _ kz => XS.iload X61.here hx rfl (hb hby at_152) rfl kz) ?_
              refine Go.of (fun _ kz => XS.icmpNo X61.here hx rfl (hb hby at_154) rfl (teq (by decide : (1 : Int32) = (1 : Int32))).2 kz) ?_
              refine Go.of (fun _ kz => XS.iconst X61.here hx rfl (hb hby at_157) (XS.goto X61.here hx rfl (pc0 := 158) (pc' := 162) rfl (hb hby at_158) (by decide) (by decide) kz)) ?_
              refine Go.ret X61 (v := some (.int (1 : Int32))) (fun h => by rw [Bd.returns] at h; cases h) Bd.notSynchronized (fun fs hr => retN X61 hx (t := .boolean) Bd.returns (by simp) (hb hby at_162) hr) (by decide) (by decide) ?_
              show Q_rm0 Z _ _ _ _ _ _ _ _ _ _ _ _ _ _ h0 n0 _ T61.heap _
              rw [e61]
              exact ⟨rfl, N61⟩

abbrev own_EL : List (String × Nat) := consts_1
theorem own_ELw {Z : State} {a0 : Array Value} (hw : ∀ d ∈ tables_1, d.before a0 Z = true) : EW Z a0 own_EL := EW.cons (w20 hw) (by decide) EW.nil
theorem own_wS {Z : State} {a0 : Array Value} (hw : ∀ d ∈ tables_1, d.before a0 Z = true) : ∀ a ∈ Bundle.stringAtoms, a.before a0 Z = true := by
  intro d hd
  simp only [Bundle.stringAtoms, Bundle.sN, List.mem_cons, List.not_mem_nil, or_false] at hd
  rcases hd with rfl | rfl | rfl | rfl | rfl | rfl | rfl
  · exact (w4 hw)
  · exact (w3 hw)
  · exact (w21 hw)
  · exact (w22 hw)
  · exact (w23 hw)
  · exact (w24 hw)
  · exact (w25 hw)

theorem d3_8 : decode jdk_42_method_149_code 8 = .ok (.aload_n 0, 1) := by decide +kernel
theorem d3_9 : decode jdk_42_method_149_code 9 = .ok (.ldc 7, 2) := by decide +kernel
theorem d3_11 : decode jdk_42_method_149_code 11 = .ok (.getfield 9, 3) := by decide +kernel
theorem d3_14 : decode jdk_42_method_149_code 14 = .ok (.putfield 9, 3) := by decide +kernel
theorem d3_17 : decode jdk_42_method_149_code 17 = .ok (.aload_n 0, 1) := by decide +kernel
theorem d3_18 : decode jdk_42_method_149_code 18 = .ok (.ldc 7, 2) := by decide +kernel
theorem d3_20 : decode jdk_42_method_149_code 20 = .ok (.getfield 15, 3) := by decide +kernel
theorem d3_23 : decode jdk_42_method_149_code 23 = .ok (.putfield 15, 3) := by decide +kernel
theorem d3_26 : decode jdk_42_method_149_code 26 = .ok (.return_, 1) := by decide +kernel
theorem ef_rm_in2_0 (m : MethodId) (x0 : Addr) (x1 : Addr) (x2 : Int32) (x3 : Int32) : entryFrame m #[(.ref x0), (.ref x1), (.int x2), (.int x3), .null] 6 = mkF m 0 #[.val (.ref x0), .val (.ref x1), .val (.int x2), .val (.int x3), .val .null, .unset] [] := by first | (simp [entryFrame, mkF, argsToLocals, Value.category]; done) | rfl
def Q_rm_in2_0 (Z : State) (a : Addr) (cs : Addr) (h0 : Heap) (n0 : Nat) (v : Option Value) (h : Heap) (L : List Loc) : Prop := v = none ∧ Fr n0 L ∧ Keep h0 h [a] ∧ Exa Z h a "java/lang/String" ∧ ∃ (b : Addr) (kb : ClassId), Fld Z h a "java/lang/String" "value" "[B" (.ref b) ∧ Fld Z h a "java/lang/String" "coder" "B" (.int (0 : Int32)) ∧ Arv Z h b kb .byte (0 : Int32) [] (.int (0 : Int32))
set_option maxRecDepth 65536 in
set_option maxHeartbeats 40000000 in
theorem rm_in2_0 (l : Launch) (Z : State) (a0 : Array Value) (hw : ∀ d ∈ tables_1, d.before a0 Z = true) (wz : List Jvm.Cond) (a : Addr) (cs : Addr) (h0 : Heap) (n0 : Nat) (O0 : Old Z n0 h0) (E : Exa Z h0 a "java/lang/String") (Fv : Fld Z h0 a "java/lang/String" "value" "[B" .null) (Fc : Fld Z h0 a "java/lang/String" "coder" "B" (.int (0 : Int32))) (ge_a : n0 ≤ a) :
    MetFree l y_19 (head1 (Jvm.Cond.code y_19 jdk_42_method_149_code 6 none :: wz) ({ frames := 1, cells := 2, slots := 4, locals := 12 } : Room)) (fun aZ UZ => aZ = #[(.ref a), (.ref cs), (.int (0 : Int32)), (.int (0 : Int32)), .null] ∧ Z.Warmed39 UZ.vm ∧ UZ.heap = h0 ∧ CHv Z own_EL UZ.vm h0 ∧ ∀ x ∈ ([a] : List Addr), Safe Z own_EL UZ.vm h0 x) (fun _ _ _ _ _ => True) (fun _ UZ oZ UY => ∃ vZ LZ, oZ = .returned vZ ∧ Q_rm_in2_0 Z a cs h0 n0 vZ UY.heap LZ ∧ CHr Z own_EL UZ.vm UZ.heap UY.vm UY.heap ∧ ReturnedEndW UZ oZ UY LZ ({ frames := 1, cells := 2, slots := 4, locals := 12 } : Room).cells ({ frames := 1, cells := 2, slots := 4, locals := 12 } : Room).slots) := by
  refine MetFree.of_bodySF (plainFor_of_name pn_3) hisR ?_
  intro p e s m args below meth c s₁ Bd hml0 hP hK
  obtain ⟨rfl, hZ, hh, H0, hSf⟩ := hP
  have hx := Bd.exec
  have hby := Bd.bytes
  have hml : c.maxLocals = 6 := hml0
  have hown : s.vm.findClass "java/lang/String" = some m.cls := findClass_of_methodNamed Bd.named
  have hnm := (name_of_methodNamed Bd.named Bd.method).1
  have X0 : Stand p l e ({ frames := 1, cells := 2, slots := 4, locals := 12 } : Room) (s.setVm s.vm) m #[(.ref a), (.ref cs), (.int (0 : Int32)), (.int (0 : Int32)), .null] below meth c s₁ [] 0 0 := Stand.of_body Bd
  have e0 : s₁.heap = h0 := by rw [← hh, Bd.state]; rfl
  have N0 := Fr.nil n0
  have Z0 : n0 ≤ h0.size := O0.1 ▸ O0.2.1
  have K0 := Keep.refl h0 []
  have hS0 : s.Since s.vm 0 := (State.WarmedH.refl s).since 0
  have hk0 : 0 ≤ h0.size := Nat.zero_le _
  have R0 : CHr Z own_EL s.vm h0 s.vm h0 := CHr.refl H0
  have hEL : EW Z a0 own_EL := own_ELw hw
  have Sf_a := hSf a (List.mem_of_getElem? (i := 0) rfl)
  show Go p e below (fun oW tW LW => CHr Z own_EL s.vm s.heap tW.vm tW.heap ∧ ReturnedEndW s oW tW LW ({ frames := 1, cells := 2, slots := 4, locals := 12 } : Room).cells ({ frames := 1, cells := 2, slots := 4, locals := 12 } : Room).slots) (Q_rm_in2_0 Z a cs h0 n0) s₁ (entryFrame m #[(.ref a), (.ref cs), (.int (0 : Int32)), (.int (0 : Int32)), .null] 6)
  refine Go.of (fun t kz => castTop (ef_rm_in2_0 m a cs (0 : Int32) (0 : Int32)) kz) ?_
  show Go _ _ _ _ _ s₁ (mkF m 0 #[.val (.ref a), .val (.ref cs), .val (.int (0 : Int32)), .val (.int (0 : Int32)), .val .null, .unset] [])
  refine Go.of (fun _ kz => XS.aloadN X0.here hx rfl (hb hby d3_0) rfl rfl kz) ?_
  show Go _ _ _ _ _ s₁ (mkF m 1 #[.val (.ref a), .val (.ref cs), .val (.int (0 : Int32)), .val (.int (0 : Int32)), .val .null, .unset] [(.ref a)])
  obtain ⟨T1, X1, e1, st1⟩ := initO X0 hx hZ hown (w17 hw) (w18 hw) (w19 hw) e0 (g := (mkF m 1 #[.val (.ref a), .val (.ref cs), .val (.int (0 : Int32)), .val (.int (0 : Int32)), .val .null, .unset] [(.ref a)])) rfl (by rw [hml]; rfl) rfl (hb hby d3_1) (by decide) (W := 0) (by show 2 * 0 + _ ≤ _; exact Nat.le_of_eq rfl) (by decide)
  refine Go.of (fun _ kz => st1 _ kz) ?_
  refine Go.of (fun _ kz => XS.iloadN X1.here hx rfl (hb hby d3_4) rfl kz) ?_
  refine Go.of (fun _ kz => XS.ifNo X1.here hx rfl (hb hby d3_5) rfl ((if0 _ _).trans (teq (by decide : (0 : Int32) = (0 : Int32))).2) kz) ?_
  refine Go.of (fun _ kz => XS.aloadN X1.here hx rfl (hb hby d3_8) rfl rfl kz) ?_
  obtain ⟨a2, T2, h2, j2, b2, kb2, X2, e2, E2, hS2, hk2, hZ, hown, Es2, Fc2, Fv2, Vb2, la2, lb2, C2, Lt2, ne2, st2⟩ := ldcCH X1 hx hZ hown (w20 hw) (own_wS hw) e1 hS0 hk0 hEL (List.mem_of_getElem? (i := 0) rfl) R0.1 (vs := []) (z := (0 : Int32)) ⟨by decide, rfl⟩ (by decide) rfl (g := (mkF m 9 #[.val (.ref a), .val (.ref cs), .val (.int (0 : Int32)), .val (.int (0 : Int32)), .val .null, .unset] [(.ref a)])) rfl (hb hby d3_9) (n := 0) (by decide) (by decide) (by decide) (by decide)
  have sf2_a := C2.safe E.lt Sf_a
  have f2_Exa_a := E.ext E2
  have f2_Fld_a_value := Fv.ext E2
  have f2_Fld_a_coder := Fc.ext E2
  have O2 := O0.ext E2
  have Kk2 := (Keep.refl h0 [a]).ext E2
  have R2 := R0.trans C2
  refine Go.of (fun _ kz => st2 _ kz) ?_
  show Go _ _ _ _ _ T2 (mkF m 11 #[.val (.ref a), .val (.ref cs), .val (.int (0 : Int32)), .val (.int (0 : Int32)), .val .null, .unset] [(.ref a2), (.ref a)])
  refine Go.getF X2 hx hZ hown (host := "") (Or.inl (w26 hw)) Via.refl e2 Fv2 (hb hby d3_11) fun T3 X3 e3 => ?_
  obtain ⟨T4, h4, X4, e4, W4, st4⟩ := putF X3 hx hZ hown (host := "") (Or.inl (w26 hw)) Via.refl e3 f2_Fld_a_value f2_Exa_a (Or.inr ⟨(w22 hw), rfl, hnm⟩) (w3 hw) (ty := (.array .byte)) (by decide) rfl rfl (g := (mkF m 14 #[.val (.ref a), .val (.ref cs), .val (.int (0 : Int32)), .val (.int (0 : Int32)), .val .null, .unset] [(.ref b2), (.ref a)])) rfl rfl (hb hby d3_14)
  have Fw4 := f2_Fld_a_value.same W4
  have sf4_a := Safe.wr W4 sf2_a R2.1 sf2_a
  have R4 := R2.trans (CHr.wr W4 sf2_a R2.1)
  have hk4 := Nat.le_trans hk2 (Nat.le_of_eq W4.size.symm)
  have f4_Exa_a := f2_Exa_a.wr W4
  have f4_Fld_a_coder := f2_Fld_a_coder.other W4 (Or.inr (slot_ne (Or.inr (w23 hw)) (Or.inr (w22 hw)) (by decide) (t := .byte) (t' := (.array .byte)) (by decide) (by decide)))
  have f4_Exa_a2 := Es2.wr W4
  have f4_Fld_a2_coder := Fc2.other W4 (Or.inl (Ne.symm (ne2 _ sf2_a).1))
  have f4_Fld_a2_value := Fv2.other W4 (Or.inl (Ne.symm (ne2 _ sf2_a).1))
  have f4_Arv_b2 := Vb2.other W4 (Ne.symm (ne2 _ sf2_a).2)
  have O4 := O2.wr W4 ge_a
  have N4 := Fr.snoc X4 N0 ge_a
  have Kk4 := Kk2.wr W4 (Or.inl (List.mem_singleton.mpr rfl))
  refine Go.of (fun _ kz => st4 _ kz) ?_
  refine Go.of (fun _ kz => XS.aloadN X4.here hx rfl (hb hby d3_17) rfl rfl kz) ?_
  refine Go.of (fun _ kz => ldcAgain X4 hx hZ hown (w20 hw) Lt2 (g := (mkF m 18 #[.val (.ref a), .val (.ref cs), .val (.int (0 : Int32)), .val (.int (0 : Int32)), .val .null, .unset] [(.ref a)])) rfl (hb hby d3_18) _ kz) ?_
  show Go _ _ _ _ _ T4 (mkF m 20 #[.val (.ref a), .val (.ref cs), .val (.int (0 : Int32)), .val (.int (0 : Int32)), .val .null, .unset] [(.ref a2), (.ref a)])
  refine Go.getF X4 hx hZ hown (host := "") (Or.inl (w27 hw)) Via.refl e4 f4_Fld_a2_coder (hb hby d3_20) fun T6 X6 e6 => ?_
  obtain ⟨T7, h7, X7, e7, W7, st7⟩ := putFN X6 hx hZ hown (w27 hw) Via.refl e6 f4_Fld_a_coder f4_Exa_a (Or.inr ⟨(w23 hw), rfl, hnm⟩) (w3 hw) (ty := .byte) (v' := (.int (0 : Int32))) (by decide) rfl (by decide) (g := (mkF m 23 #[.val (.ref a), .val (.ref cs), .val (.int (0 : Int32)), .val (.int (0 : Int32)), .val .null, .unset] [(.int (0 : Int32)), (.ref a)])) rfl rfl (hb hby d3_23)
  have Fw7 := f4_Fld_a_coder.same W7
  have sf7_a := Safe.wr W7 sf4_a R4.1 sf4_a
  have R7 := R4.trans (CHr.wr W7 sf4_a R4.1)
  have hk7 := Nat.le_trans hk4 (Nat.le_of_eq W7.size.symm)
  have f7_Exa_a := f4_Exa_a.wr W7
  have f7_Fld_a_value := Fw4.other W7 (Or.inr (slot_ne (Or.inr (w22 hw)) (Or.inr (w23 hw)) (by decide) (t := (.array .byte)) (t' := .byte) (by decide) (by decide)))
  have f7_Exa_a2 := f4_Exa_a2.wr W7
  have f7_Fld_a2_coder := f4_Fld_a2_coder.other W7 (Or.inl (Ne.symm (ne2 _ sf2_a).1))
  have f7_Fld_a2_value := f4_Fld_a2_value.other W7 (Or.inl (Ne.symm (ne2 _ sf2_a).1))
  have f7_Arv_b2 := f4_Arv_b2.other W7 (Ne.symm (ne2 _ sf2_a).2)
  have O7 := O4.wr W7 ge_a
  have N7 := Fr.snoc X7 N4 ge_a
  have Kk7 := Kk4.wr W7 (Or.inl (List.mem_singleton.mpr rfl))
  refine Go.of (fun _ kz => st7 _ kz) ?_
  refine Go.retW X7 hZ hEL hS2 hk7 e7 hh R7 (v := none) (fun _ => rfl) Bd.notSynchronized (fun fs hr => X7.returnOut hx Bd.returns (hb hby d3_26) hr) (by decide) (by decide) ?_
  show Q_rm_in2_0 Z _ _ h0 n0 _ T7.heap _
  rw [e7]
  exact ⟨rfl, N7, Kk7, f7_Exa_a, _, _, f7_Fld_a_value, Fw7, f7_Arv_b2⟩

theorem ef_rm_in1_0 (m : MethodId) (x0 : Addr) (x1 : Addr) : entryFrame m #[(.ref x0), (.ref x1)] 2 = mkF m 0 #[.val (.ref x0), .val (.ref x1)] [] := by first | (simp [entryFrame, mkF, argsToLocals, Value.category]; done) | rfl
def Q_rm_in1_0 (Z : State) (a : Addr) (cs : Addr) (kc : ClassId) (h0 : Heap) (n0 : Nat) (v : Option Value) (h : Heap) (L : List Loc) : Prop := v = none ∧ Fr n0 L ∧ Keep h0 h [a] ∧ Exa Z h a "java/lang/String" ∧ ∃ (b : Addr) (kb : ClassId), Fld Z h a "java/lang/String" "value" "[B" (.ref b) ∧ Fld Z h a "java/lang/String" "coder" "B" (.int (0 : Int32)) ∧ Arv Z h b kb .byte (0 : Int32) [] (.int (0 : Int32))
set_option maxRecDepth 65536 in
set_option maxHeartbeats 40000000 in
theorem rm_in1_0 (l : Launch) (Z : State) (a0 : Array Value) (hw : ∀ d ∈ tables_1, d.before a0 Z = true) (wz : List Jvm.Cond) (a : Addr) (cs : Addr) (kc : ClassId) (h0 : Heap) (n0 : Nat) (O0 : Old Z n0 h0) (E : Exa Z h0 a "java/lang/String") (Fv : Fld Z h0 a "java/lang/String" "value" "[B" .null) (Fc : Fld Z h0 a "java/lang/String" "coder" "B" (.int (0 : Int32))) (ge_a : n0 ≤ a) (Vc : Arv Z h0 cs kc .char (0 : Int32) [] (.int (0 : Int32))) :
    MetFree l y_20 (head1 (Jvm.Cond.code y_20 jdk_42_method_3_code 2 none :: wz) ({ frames := 2, cells := 2, slots := 4, locals := 29 } : Room)) (fun aZ UZ => aZ = #[(.ref a), (.ref cs)] ∧ Z.Warmed39 UZ.vm ∧ UZ.heap = h0 ∧ CHv Z own_EL UZ.vm h0 ∧ ∀ x ∈ ([a] : List Addr), Safe Z own_EL UZ.vm h0 x) (fun _ _ _ _ _ => True) (fun _ UZ oZ UY => ∃ vZ LZ, oZ = .returned vZ ∧ Q_rm_in1_0 Z a cs kc h0 n0 vZ UY.heap LZ ∧ CHr Z own_EL UZ.vm UZ.heap UY.vm UY.heap ∧ ReturnedEndW UZ oZ UY LZ ({ frames := 2, cells := 2, slots := 4, locals := 29 } : Room).cells ({ frames := 2, cells := 2, slots := 4, locals := 29 } : Room).slots) := by
  refine MetFree.of_bodySF (plainFor_of_name pn_2) hisR ?_
  intro p e s m args below meth c s₁ Bd hml0 hP hK
  obtain ⟨rfl, hZ, hh, H0, hSf⟩ := hP
  have hx := Bd.exec
  have hby := Bd.bytes
  have hml : c.maxLocals = 2 := hml0
  have hown : s.vm.findClass "java/lang/String" = some m.cls := findClass_of_methodNamed Bd.named
  have hnm := (name_of_methodNamed Bd.named Bd.method).1
  have X0 : Stand p l e ({ frames := 2, cells := 2, slots := 4, locals := 29 } : Room) (s.setVm s.vm) m #[(.ref a), (.ref cs)] below meth c s₁ [] 0 0 := Stand.of_body Bd
  have e0 : s₁.heap = h0 := by rw [← hh, Bd.state]; rfl
  have N0 := Fr.nil n0
  have Z0 : n0 ≤ h0.size := O0.1 ▸ O0.2.1
  have K0 := Keep.refl h0 []
  have hS0 : s.Since s.vm 0 := (State.WarmedH.refl s).since 0
  have hk0 : 0 ≤ h0.size := Nat.zero_le _
  have R0 : CHr Z own_EL s.vm h0 s.vm h0 := CHr.refl H0
  have hEL : EW Z a0 own_EL := own_ELw hw
  have Sf_a := hSf a (List.mem_of_getElem? (i := 0) rfl)
  show Go p e below (fun oW tW LW => CHr Z own_EL s.vm s.heap tW.vm tW.heap ∧ ReturnedEndW s oW tW LW ({ frames := 2, cells := 2, slots := 4, locals := 29 } : Room).cells ({ frames := 2, cells := 2, slots := 4, locals := 29 } : Room).slots) (Q_rm_in1_0 Z a cs kc h0 n0) s₁ (entryFrame m #[(.ref a), (.ref cs)] 2)
  refine Go.of (fun t kz => castTop (ef_rm_in1_0 m a cs) kz) ?_
  show Go _ _ _ _ _ s₁ (mkF m 0 #[.val (.ref a), .val (.ref cs)] [])
  refine Go.of (fun _ kz => XS.aloadN X0.here hx rfl (hb hby d2_0) rfl rfl (XS.aloadN X0.here hx rfl (hb hby d2_1) rfl rfl (XS.iconst X0.here hx rfl (hb hby d2_2) (XS.aloadN X0.here hx rfl (hb hby d2_3) rfl rfl kz)))) ?_
  obtain ⟨cl1a, Ar1a, q1a, S1a, N1a, H1a, G1a⟩ := id Vc
  refine Go.of (fun _ kz => X0.arraylength hx (by rw [e0]; exact Ar1a.1) (State.isArrayOf_alike hZ.alike Ar1a.2.1) (g := (mkF m 4 #[.val (.ref a), .val (.ref cs)] [(.ref cs), (.int (0 : Int32)), (.ref cs), (.ref a)])) rfl rfl (hb hby d2_4) _ kz) ?_
  rw [(len_of S1a N1a)]
  refine Go.of (fun _ kz => XS.aconstNull X0.here hx rfl (hb hby d2_5) kz) ?_
  show Go _ _ _ _ _ s₁ (mkF m 6 #[.val (.ref a), .val (.ref cs)] [.null, (.int (0 : Int32)), (.int (0 : Int32)), (.ref cs), (.ref a)])
  refine Go.callIW X0 hx hZ hown (y := y_19) rfl (w13 hw) (w14 hw) (w4 hw) (w16 hw) (by decide) (a := a) (rm_in2_0 l Z a0 hw [] a cs h0 n0 O0 E Fv Fc ge_a) e0 hEL R0.1 (allS ⟨E.lt, Sf_a⟩ all0) hS0 hk0 0 (by decide) (by decide) (by rw [hml]; rfl) (argsL := [(.ref cs), (.int (0 : Int32)), (.int (0 : Int32)), .null]) (rest := []) (lenOf pd_13 rfl) rfl rfl (Nat.le_of_eq rfl) (hb hby d2_6) (c2 := 2) (s2 := 4) rfl rfl (by decide) (by decide) fun v2 T2 Lc2 L2 X2 l2 hQ2 hS2 hZ hown C2 => ?_
  have R2 := R0.trans C2
  have hk2 := Nat.le_refl T2.heap.size
  have sf2_a := C2.safe E.lt Sf_a
  obtain ⟨rfl, N2q, hR2⟩ := hQ2
  have N2 : Fr n0 L2 := by rw [l2]; exact Fr.app N0 N2q
  refine Go.retW X2 hZ hEL hS2 hk2 (rfl : T2.heap = _) hh R2 (v := none) (fun _ => rfl) Bd.notSynchronized (fun fs hr => X2.returnOut hx Bd.returns (hb hby d2_9) hr) (by decide) (by decide) ?_
  show Q_rm_in1_0 Z _ _ _ h0 n0 _ T2.heap _
  exact ⟨rfl, N2, hR2⟩

theorem d1_4 : decode method_4_code 4 = .ok (.iconst 0, 1) := by decide +kernel
theorem d1_5 : decode method_4_code 5 = .ok (.newarray .char, 2) := by decide +kernel
theorem d1_7 : decode method_4_code 7 = .ok (.areturn, 1) := by decide +kernel
theorem ef_rm_mk_0 (m : MethodId) (x0 : Int32) (x1 : Int32) (x2 : Int32) (x3 : Int32) (x4 : Int32) (x5 : Int32) : entryFrame m #[(.int x0), (.int x1), (.int x2), (.int x3), (.int x4), (.int x5)] 6 = mkF m 0 #[.val (.int x0), .val (.int x1), .val (.int x2), .val (.int x3), .val (.int x4), .val (.int x5)] [] := by first | (simp [entryFrame, mkF, argsToLocals, Value.category]; done) | rfl
def Q_rm_mk_0 (Z : State) (u0 : UInt16) (u1 : UInt16) (u2 : UInt16) (u3 : UInt16) (u4 : UInt16) (h0 : Heap) (n0 : Nat) (v : Option Value) (h : Heap) (L : List Loc) : Prop := ∃ (b : Addr) (kc : ClassId), v = some (.ref b) ∧ Fr n0 L ∧ Keep h0 h [] ∧ h0.size ≤ b ∧ Arv Z h b kc .char (0 : Int32) [] (.int (0 : Int32))
set_option maxRecDepth 65536 in
set_option maxHeartbeats 40000000 in
theorem rm_mk_0 (l : Launch) (Z : State) (a0 : Array Value) (hw : ∀ d ∈ tables_1, d.before a0 Z = true) (wz : List Jvm.Cond) (u0 : UInt16) (u1 : UInt16) (u2 : UInt16) (u3 : UInt16) (u4 : UInt16) (h0 : Heap) (n0 : Nat) (O0 : Old Z n0 h0) :
    MetFree l y_25 (head1 (Jvm.Cond.code y_25 method_4_code 6 (some (.array .char)) :: wz) ({ frames := 0, cells := 1, slots := 0, locals := 0 } : Room)) (fun aZ UZ => aZ = #[(.int (0 : Int32)), (.int (own_ch u0)), (.int (own_ch u1)), (.int (own_ch u2)), (.int (own_ch u3)), (.int (own_ch u4))] ∧ Z.Warmed39 UZ.vm ∧ UZ.heap = h0) (fun _ _ _ _ _ => True) (fun _ UZ oZ UY => ∃ vZ LZ, oZ = .returned vZ ∧ Q_rm_mk_0 Z u0 u1 u2 u3 u4 h0 n0 vZ UY.heap LZ ∧ FrameEnd UZ oZ UY LZ ({ frames := 0, cells := 1, slots := 0, locals := 0 } : Room).cells ({ frames := 0, cells := 1, slots := 0, locals := 0 } : Room).slots) := by
  refine MetFree.of_bodySF (plainFor_of_name pn_1) hisR ?_
  intro p e s m args below meth c s₁ Bd hml0 hP hK
  obtain ⟨rfl, hZ, hh⟩ := hP
  have hx := Bd.exec
  have hby := Bd.bytes
  have hml : c.maxLocals = 6 := hml0
  have hown : s.vm.findClass "com/example/fulla/fulla/model/LatticeIsNamePinLaw" = some m.cls := findClass_of_methodNamed Bd.named
  have hnm := (name_of_methodNamed Bd.named Bd.method).1
  have X0 : Stand p l e ({ frames := 0, cells := 1, slots := 0, locals := 0 } : Room) s m #[(.int (0 : Int32)), (.int (own_ch u0)), (.int (own_ch u1)), (.int (own_ch u2)), (.int (own_ch u3)), (.int (own_ch u4))] below meth c s₁ [] 0 0 := Stand.of_body Bd
  have e0 : s₁.heap = h0 := by rw [← hh, Bd.state]; rfl
  have N0 := Fr.nil n0
  have Z0 : n0 ≤ h0.size := O0.1 ▸ O0.2.1
  have K0 := Keep.refl h0 []
  show Go p e below (fun oW tW LW => FrameEnd s oW tW LW ({ frames := 0, cells := 1, slots := 0, locals := 0 } : Room).cells ({ frames := 0, cells := 1, slots := 0, locals := 0 } : Room).slots) (Q_rm_mk_0 Z u0 u1 u2 u3 u4 h0 n0) s₁ (entryFrame m #[(.int (0 : Int32)), (.int (own_ch u0)), (.int (own_ch u1)), (.int (own_ch u2)), (.int (own_ch u3)), (.int (own_ch u4))] 6)
  refine Go.of (fun t kz => castTop (ef_rm_mk_0 m (0 : Int32) (own_ch u0) (own_ch u1) (own_ch u2) (own_ch u3) (own_ch u4)) kz) ?_
  show Go _ _ _ _ _ s₁ (mkF m 0 #[.val (.int (0 : Int32)), .val (.int (own_ch u0)), .val (.int (own_ch u1)), .val (.int (own_ch u2)), .val (.int (own_ch u3)), .val (.int (own_ch u4))] [])
  refine Go.of (fun _ kz => XS.iloadN X0.here hx rfl (hb hby d1_0) rfl kz) ?_
  refine Go.of (fun _ kz => XS.ifNo X0.here hx rfl (hb hby d1_1) rfl ((if0 _ _).trans (teq (by decide : (0 : Int32) = (0 : Int32))).2) kz) ?_
  refine Go.of (fun _ kz => XS.iconst X0.here hx rfl (hb hby d1_4) kz) ?_
  obtain ⟨T1, h1, k1, X1, e1, E1, A1, st1⟩ := newP (aty := .char) X0 hx hZ (w9 hw) e0 (g := (mkF m 5 #[.val (.int (0 : Int32)), .val (.int (own_ch u0)), .val (.int (own_ch u1)), .val (.int (own_ch u2)), .val (.int (own_ch u3)), .val (.int (own_ch u4))] [(.int (0 : Int32))])) rfl (hb hby d1_5) rfl (by decide) (cap := 0) (by decide) (by decide) (by decide) (by decide)
  obtain ⟨b1, g1⟩ : ∃ z, z = h0.size := ⟨_, rfl⟩
  rw [← g1] at A1 st1
  have ge_b1 : n0 ≤ b1 := Nat.le_trans (O0.1 ▸ O0.2.1) (Nat.le_of_eq g1.symm)
  have hsz_b1 := Nat.le_of_eq g1.symm
  have sz_b1 : h0.size ≤ b1 := Nat.le_trans (Keep.refl h0 []).1 (Nat.le_of_eq g1.symm)
  have O1 := O0.ext E1
  have Kk1 := (Keep.refl h0 []).ext E1
  have V_b1 : Arv Z h1 b1 k1 .char (0 : Int32) [] (.int (0 : Int32)) := (Arv.new A1 (by decide)).pad (pad_rep [] (.int (0 : Int32)) 0)
  refine Go.of (fun _ kz => st1 _ kz) ?_
  refine Go.ret X1 (v := some (.ref b1)) (fun h => by rw [Bd.returns] at h; cases h) Bd.notSynchronized (fun fs hr => retOut X1 hx Bd.returns rfl (Or.inr (Or.inr (Or.inr (Or.inr ⟨rfl, rfl, rfl⟩)))) (hb hby d1_7) hr) (by decide) (by decide) ?_
  show Q_rm_mk_0 Z _ _ _ _ _ h0 n0 _ T1.heap _
  rw [e1]
  exact ⟨_, _, rfl, N0, Kk1, sz_b1, V_b1⟩

theorem ef_rm_nm_0 (m : MethodId) (x0 : Addr) : entryFrame m #[(.ref x0)] 3 = mkF m 0 #[.val (.ref x0), .unset, .unset] [] := by first | (simp [entryFrame, mkF, argsToLocals, Value.category]; done) | rfl
def Q_rm_nm_0 (Z : State) (a : Addr) (b : Addr) (kb : ClassId) (h0 : Heap) (n0 : Nat) (v : Option Value) (h : Heap) (L : List Loc) : Prop := v = some (.int 0) ∧ Fr n0 L ∧ h = h0
set_option maxRecDepth 65536 in
set_option maxHeartbeats 40000000 in
theorem rm_nm_0 (l : Launch) (Z : State) (a0 : Array Value) (hw : ∀ d ∈ tables_1, d.before a0 Z = true) (wz : List Jvm.Cond) (a : Addr) (b : Addr) (kb : ClassId) (h0 : Heap) (n0 : Nat) (O0 : Old Z n0 h0) (E : Exa Z h0 a "java/lang/String") (Fv : Fld Z h0 a "java/lang/String" "value" "[B" (.ref b)) (Vb : Arv Z h0 b kb .byte (0 : Int32) [] (.int (0 : Int32))) :
    MetFree l y_24 (head1 (Jvm.Cond.code y_24 prog_60_method_3_code 3 (some .boolean) :: wz) ({ frames := 1, cells := 0, slots := 0, locals := 12 } : Room)) (fun aZ UZ => aZ = #[(.ref a)] ∧ Z.Warmed39 UZ.vm ∧ UZ.heap = h0) (fun _ _ _ _ _ => True) (fun _ UZ oZ UY => ∃ vZ LZ, oZ = .returned vZ ∧ Q_rm_nm_0 Z a b kb h0 n0 vZ UY.heap LZ ∧ FrameEnd UZ oZ UY LZ ({ frames := 1, cells := 0, slots := 0, locals := 12 } : Room).cells ({ frames := 1, cells := 0, slots := 0, locals := 12 } : Room).slots) := by
  refine MetFree.of_bodySF (plainFor_of_name pn_5) hisR ?_
  intro p e s m args below meth c s₁ Bd hml0 hP hK
  obtain ⟨rfl, hZ, hh⟩ := hP
  have hx := Bd.exec
  have hby := Bd.bytes
  have hml : c.maxLocals = 3 := hml0
  have hown : s.vm.findClass "com/example/fulla/fulla/model/Lattice" = some m.cls := findClass_of_methodNamed Bd.named
  have hnm := (name_of_methodNamed Bd.named Bd.method).1
  have X0 : Stand p l e ({ frames := 1, cells := 0, slots := 0, locals := 12 } : Room) s m #[(.ref a)] below meth c s₁ [] 0 0 := Stand.of_body Bd
  have e0 : s₁.heap = h0 := by rw [← hh, Bd.state]; rfl
  have N0 := Fr.nil n0
  have Z0 : n0 ≤ h0.size := O0.1 ▸ O0.2.1
  have K0 := Keep.refl h0 []
  show Go p e below (fun oW tW LW => FrameEnd s oW tW LW ({ frames := 1, cells := 0, slots := 0, locals := 12 } : Room).cells ({ frames := 1, cells := 0, slots := 0, locals := 12 } : Room).slots) (Q_rm_nm_0 Z a b kb h0 n0) s₁ (entryFrame m #[(.ref a)] 3)
  refine Go.of (fun t kz => castTop (ef_rm_nm_0 m a) kz) ?_
  show Go _ _ _ _ _ s₁ (mkF m 0 #[.val (.ref a), .unset, .unset] [])
  refine Go.of (fun _ kz => XS.aloadN X0.here hx rfl (hb hby d5_0) rfl rfl kz) ?_
  show Go _ _ _ _ _ s₁ (mkF m 1 #[.val (.ref a), .unset, .unset] [(.ref a)])
  refine Go.callV X0 hx hZ hown (y := y_6) (z := y_6) (w32 hw) (w33 hw) (notFace_of_selects (args := #[]) (mvT hZ (w35 hw))) (w35 hw) (w34 hw) (w4 hw) (w36 hw) (by decide) (a := a) (rm_emp l Z a0 hw [] a b kb (0 : Int32) [] 1 h0 n0 O0 Fv Vb (by decide)) e0 E 0 (by decide) (by decide) (by rw [hml]; rfl) (argsL := []) (rest := []) (lenOf pd_6 rfl) rfl rfl (Nat.le_of_eq rfl) (hb hby d5_1) (c2 := 0) (s2 := 0) rfl rfl (by decide) (by decide) fun v1 T1 Lc1 L1 X1 l1 hQ1 => ?_
  obtain ⟨rfl, N1q, e1⟩ := hQ1
  have N1 : Fr n0 L1 := by rw [l1]; exact Fr.app N0 N1q
  refine Go.of (fun _ kz => XS.ifYes X1.here hx rfl (pc0 := 4) (pc' := 18) rfl (hb hby d5_4) rfl ((if0 _ _).trans (feq (by decide : ¬ (1 : Int32) = (0 : Int32))).2) (by decide) (by decide) kz) ?_
  refine Go.of (fun _ kz => XS.iconst X1.here hx rfl (hb hby d5_18) kz) ?_
  refine Go.ret X1 (v := some (.int (0 : Int32))) (fun h => by rw [Bd.returns] at h; cases h) Bd.notSynchronized (fun fs hr => retN X1 hx (t := .boolean) Bd.returns (by simp) (hb hby d5_19) hr) (by decide) (by decide) ?_
  show Q_rm_nm_0 Z _ _ _ h0 n0 _ T1.heap _
  rw [e1]
  exact ⟨rfl, N1, rfl⟩

theorem ef_rm0z (m : MethodId) (x0 : Int32) (x1 : Int32) (x2 : Int32) (x3 : Int32) (x4 : Int32) (x5 : Int32) : entryFrame m #[(.int x0), (.int x1), (.int x2), (.int x3), (.int x4), (.int x5)] maxLocals = mkF m 0 #[.val (.int x0), .val (.int x1), .val (.int x2), .val (.int x3), .val (.int x4), .val (.int x5), .unset, .unset, .unset, .unset, .unset, .unset, .unset, .unset] [] := by first | (simp [entryFrame, mkF, argsToLocals, Value.category, maxLocals]; done) | rfl
def Q_rm0z (Z : State) (pp : Int32) (aa0 : Int32) (aa1 : Int32) (aa2 : Int32) (aa3 : Int32) (aa4 : Int32) (u0 : UInt16) (u1 : UInt16) (u2 : UInt16) (u3 : UInt16) (u4 : UInt16) (h0 : Heap) (n0 : Nat) (v : Option Value) (h : Heap) (L : List Loc) : Prop := v = some (.int 1) ∧ Fr n0 L
set_option maxRecDepth 65536 in
set_option maxHeartbeats 40000000 in
theorem rm0z (l : Launch) (Z : State) (a0 : Array Value) (hw : ∀ d ∈ tables_1, d.before a0 Z = true) (wz : List Jvm.Cond) (pp : Int32) (aa0 : Int32) (aa1 : Int32) (aa2 : Int32) (aa3 : Int32) (aa4 : Int32) (u0 : UInt16) (u1 : UInt16) (u2 : UInt16) (u3 : UInt16) (u4 : UInt16) (h0 : Heap) (n0 : Nat) (O0 : Old Z n0 h0) (hk : ((pp &&& (2147483647 : Int32)) % (6 : Int32)) = (0 : Int32)) (hu0 : (aa0 &&& (65535 : Int32)).toUInt32.toUInt16 = u0) (hu1 : (aa1 &&& (65535 : Int32)).toUInt32.toUInt16 = u1) (hu2 : (aa2 &&& (65535 : Int32)).toUInt32.toUInt16 = u2) (hu3 : (aa3 &&& (65535 : Int32)).toUInt32.toUInt16 = u3) (hu4 : (aa4 &&& (65535 : Int32)).toUInt32.toUInt16 = u4) :
    MetFree l x (head1 (Jvm.Cond.code x code maxLocals ret :: wz) room_1) (fun aZ UZ => aZ = #[(.int pp), (.int aa0), (.int aa1), (.int aa2), (.int aa3), (.int aa4)] ∧ Z.Warmed39 UZ.vm ∧ UZ.heap = h0 ∧ CHv Z own_EL UZ.vm h0 ∧ ∀ x ∈ ([] : List Addr), Safe Z own_EL UZ.vm h0 x) (fun _ _ _ _ _ => True) (fun _ UZ oZ UY => ∃ vZ LZ, oZ = .returned vZ ∧ Q_rm0z Z pp aa0 aa1 aa2 aa3 aa4 u0 u1 u2 u3 u4 h0 n0 vZ UY.heap LZ ∧ CHr Z own_EL UZ.vm UZ.heap UY.vm UY.heap ∧ ReturnedEndW UZ oZ UY LZ room_1.cells room_1.slots) := by
  refine MetFree.of_bodySF (plainFor_of_name pn_0) hisR ?_
  intro p e s m args below meth c s₁ Bd hml0 hP hK
  obtain ⟨rfl, hZ, hh, H0, hSf⟩ := hP
  have hx := Bd.exec
  have hby := Bd.bytes
  have hml : c.maxLocals = 14 := hml0
  have hown : s.vm.findClass "com/example/fulla/fulla/model/LatticeIsNamePinLaw" = some m.cls := findClass_of_methodNamed Bd.named
  have hnm := (name_of_methodNamed Bd.named Bd.method).1
  have X0 : Stand p l e room_1 (s.setVm s.vm) m #[(.int pp), (.int aa0), (.int aa1), (.int aa2), (.int aa3), (.int aa4)] below meth c s₁ [] 0 0 := Stand.of_body Bd
  have e0 : s₁.heap = h0 := by rw [← hh, Bd.state]; rfl
  have N0 := Fr.nil n0
  have Z0 : n0 ≤ h0.size := O0.1 ▸ O0.2.1
  have K0 := Keep.refl h0 []
  have hS0 : s.Since s.vm 0 := (State.WarmedH.refl s).since 0
  have hk0 : 0 ≤ h0.size := Nat.zero_le _
  have R0 : CHr Z own_EL s.vm h0 s.vm h0 := CHr.refl H0
  have hEL : EW Z a0 own_EL := own_ELw hw
  show Go p e below (fun oW tW LW => CHr Z own_EL s.vm s.heap tW.vm tW.heap ∧ ReturnedEndW s oW tW LW room_1.cells room_1.slots) (Q_rm0z Z pp aa0 aa1 aa2 aa3 aa4 u0 u1 u2 u3 u4 h0 n0) s₁ (entryFrame m #[(.int pp), (.int aa0), (.int aa1), (.int aa2), (.int aa3), (.int aa4)] maxLocals)
  refine Go.of (fun t kz => castTop (ef_rm0z m pp aa0 aa1 aa2 aa3 aa4) kz) ?_
  show Go _ _ _ _ _ s₁ (mkF m 0 #[.val (.int pp), .val (.int aa0), .val (.int aa1), .val (.int aa2), .val (.int aa3), .val (.int aa4), .unset, .unset, .unset, .unset, .unset, .unset, .unset, .unset] [])
  refine Go.of (fun _ kz => XS.iloadN X0.here hx rfl (hb hby at_0) rfl (X0.ldcInt hx hown (mvT hZ (w0 hw)) (g := (mkF m 1 #[.val (.int pp), .val (.int aa0), .val (.int aa1), .val (.int aa2), .val (.int aa3), .val (.int aa4), .unset, .unset, .unset, .unset, .unset, .unset, .unset, .unset] [(.int pp)])) rfl (hb hby at_1) _ (XS.iand X0.here hx rfl (hb hby at_3) rfl (XS.bipush X0.here hx rfl (hb hby at_4) (iremM X0 hx rfl (hb hby at_6) rfl (by decide) kz))))) ?_
  show Go _ _ _ _ _ s₁ (mkF m 7 #[.val (.int pp), .val (.int aa0), .val (.int aa1), .val (.int aa2), .val (.int aa3), .val (.int aa4), .unset, .unset, .unset, .unset, .unset, .unset, .unset, .unset] [(.int ((pp &&& (2147483647 : Int32)) % (6 : Int32)))])
  rw [hk]
  show Go _ _ _ _ _ s₁ (mkF m 7 #[.val (.int pp), .val (.int aa0), .val (.int aa1), .val (.int aa2), .val (.int aa3), .val (.int aa4), .unset, .unset, .unset, .unset, .unset, .unset, .unset, .unset] [(.int (0 : Int32))])
  refine Go.of (fun _ kz => XS.istore X0.here hx rfl (hb hby at_7) rfl (l' := #[.val (.int pp), .val (.int aa0), .val (.int aa1), .val (.int aa2), .val (.int aa3), .val (.int aa4), .val (.int (0 : Int32)), .unset, .unset, .unset, .unset, .unset, .unset, .unset]) rfl (XS.iloadN X0.here hx rfl (hb hby at_9) rfl (X0.ldcInt hx hown (mvT hZ (w1 hw)) (g := (mkF m 10 #[.val (.int pp), .val (.int aa0), .val (.int aa1), .val (.int aa2), .val (.int aa3), .val (.int aa4), .val (.int (0 : Int32)), .unset, .unset, .unset, .unset, .unset, .unset, .unset] [(.int aa0)])) rfl (hb hby at_10) _ (XS.iand X0.here hx rfl (hb hby at_12) rfl (XS.i2c X0.here hx rfl (hb hby at_13) rfl kz))))) ?_
  show Go _ _ _ _ _ s₁ (mkF m 14 #[.val (.int pp), .val (.int aa0), .val (.int aa1), .val (.int aa2), .val (.int aa3), .val (.int aa4), .val (.int (0 : Int32)), .unset, .unset, .unset, .unset, .unset, .unset, .unset] [(.int ((aa0 &&& (65535 : Int32)).toUInt32.toUInt16.toUInt32.toInt32))])
  rw [hu0]
  show Go _ _ _ _ _ s₁ (mkF m 14 #[.val (.int pp), .val (.int aa0), .val (.int aa1), .val (.int aa2), .val (.int aa3), .val (.int aa4), .val (.int (0 : Int32)), .unset, .unset, .unset, .unset, .unset, .unset, .unset] [(.int (own_ch u0))])
  refine Go.of (fun _ kz => XS.istore X0.here hx rfl (hb hby at_14) rfl (l' := #[.val (.int pp), .val (.int aa0), .val (.int aa1), .val (.int aa2), .val (.int aa3), .val (.int aa4), .val (.int (0 : Int32)), .val (.int (own_ch u0)), .unset, .unset, .unset, .unset, .unset, .unset]) rfl (XS.iloadN X0.here hx rfl (hb hby at_16) rfl (X0.ldcInt hx hown (mvT hZ (w1 hw)) (g := (mkF m 17 #[.val (.int pp), .val (.int aa0), .val (.int aa1), .val (.int aa2), .val (.int aa3), .val (.int aa4), .val (.int (0 : Int32)), .val (.int (own_ch u0)), .unset, .unset, .unset, .unset, .unset, .unset] [(.int aa1)])) rfl (hb hby at_17) _ (XS.iand X0.here hx rfl (hb hby at_19) rfl (XS.i2c X0.here hx rfl (hb hby at_20) rfl kz))))) ?_
  show Go _ _ _ _ _ s₁ (mkF m 21 #[.val (.int pp), .val (.int aa0), .val (.int aa1), .val (.int aa2), .val (.int aa3), .val (.int aa4), .val (.int (0 : Int32)), .val (.int (own_ch u0)), .unset, .unset, .unset, .unset, .unset, .unset] [(.int ((aa1 &&& (65535 : Int32)).toUInt32.toUInt16.toUInt32.toInt32))])
  rw [hu1]
  show Go _ _ _ _ _ s₁ (mkF m 21 #[.val (.int pp), .val (.int aa0), .val (.int aa1), .val (.int aa2), .val (.int aa3), .val (.int aa4), .val (.int (0 : Int32)), .val (.int (own_ch u0)), .unset, .unset, .unset, .unset, .unset, .unset] [(.int (own_ch u1))])
  refine Go.of (fun _ kz => XS.istore X0.here hx rfl (hb hby at_21) rfl (l' := #[.val (.int pp), .val (.int aa0), .val (.int aa1), .val (.int aa2), .val (.int aa3), .val (.int aa4), .val (.int (0 : Int32)), .val (.int (own_ch u0)), .val (.int (own_ch u1)), .unset, .unset, .unset, .unset, .unset]) rfl (XS.iloadN X0.here hx rfl (hb hby at_23) rfl (X0.ldcInt hx hown (mvT hZ (w1 hw)) (g := (mkF m 24 #[.val (.int pp), .val (.int aa0), .val (.int aa1), .val (.int aa2), .val (.int aa3), .val (.int aa4), .val (.int (0 : Int32)), .val (.int (own_ch u0)), .val (.int (own_ch u1)), .unset, .unset, .unset, .unset, .unset] [(.int aa2)])) rfl (hb hby at_24) _ (XS.iand X0.here hx rfl (hb hby at_26) rfl (XS.i2c X0.here hx rfl (hb hby at_27) rfl kz))))) ?_
  show Go _ _ _ _ _ s₁ (mkF m 28 #[.val (.int pp), .val (.int aa0), .val (.int aa1), .val (.int aa2), .val (.int aa3), .val (.int aa4), .val (.int (0 : Int32)), .val (.int (own_ch u0)), .val (.int (own_ch u1)), .unset, .unset, .unset, .unset, .unset] [(.int ((aa2 &&& (65535 : Int32)).toUInt32.toUInt16.toUInt32.toInt32))])
  rw [hu2]
  show Go _ _ _ _ _ s₁ (mkF m 28 #[.val (.int pp), .val (.int aa0), .val (.int aa1), .val (.int aa2), .val (.int aa3), .val (.int aa4), .val (.int (0 : Int32)), .val (.int (own_ch u0)), .val (.int (own_ch u1)), .unset, .unset, .unset, .unset, .unset] [(.int (own_ch u2))])
  refine Go.of (fun _ kz => XS.istore X0.here hx rfl (hb hby at_28) rfl (l' := #[.val (.int pp), .val (.int aa0), .val (.int aa1), .val (.int aa2), .val (.int aa3), .val (.int aa4), .val (.int (0 : Int32)), .val (.int (own_ch u0)), .val (.int (own_ch u1)), .val (.int (own_ch u2)), .unset, .unset, .unset, .unset]) rfl (XS.iload X0.here hx rfl (hb hby at_30) rfl (X0.ldcInt hx hown (mvT hZ (w1 hw)) (g := (mkF m 32 #[.val (.int pp), .val (.int aa0), .val (.int aa1), .val (.int aa2), .val (.int aa3), .val (.int aa4), .val (.int (0 : Int32)), .val (.int (own_ch u0)), .val (.int (own_ch u1)), .val (.int (own_ch u2)), .unset, .unset, .unset, .unset] [(.int aa3)])) rfl (hb hby at_32) _ (XS.iand X0.here hx rfl (hb hby at_34) rfl (XS.i2c X0.here hx rfl (hb hby at_35) rfl kz))))) ?_
  show Go _ _ _ _ _ s₁ (mkF m 36 #[.val (.int pp), .val (.int aa0), .val (.int aa1), .val (.int aa2), .val (.int aa3), .val (.int aa4), .val (.int (0 : Int32)), .val (.int (own_ch u0)), .val (.int (own_ch u1)), .val (.int (own_ch u2)), .unset, .unset, .unset, .unset] [(.int ((aa3 &&& (65535 : Int32)).toUInt32.toUInt16.toUInt32.toInt32))])
  rw [hu3]
  show Go _ _ _ _ _ s₁ (mkF m 36 #[.val (.int pp), .val (.int aa0), .val (.int aa1), .val (.int aa2), .val (.int aa3), .val (.int aa4), .val (.int (0 : Int32)), .val (.int (own_ch u0)), .val (.int (own_ch u1)), .val (.int (own_ch u2)), .unset, .unset, .unset, .unset] [(.int (own_ch u3))])
  refine Go.of (fun _ kz => XS.istore X0.here hx rfl (hb hby at_36) rfl (l' := #[.val (.int pp), .val (.int aa0), .val (.int aa1), .val (.int aa2), .val (.int aa3), .val (.int aa4), .val (.int (0 : Int32)), .val (.int (own_ch u0)), .val (.int (own_ch u1)), .val (.int (own_ch u2)), .val (.int (own_ch u3)), .unset, .unset, .unset]) rfl (XS.iload X0.here hx rfl (hb hby at_38) rfl (X0.ldcInt hx hown (mvT hZ (w1 hw)) (g := (mkF m 40 #[.val (.int pp), .val (.int aa0), .val (.int aa1), .val (.int aa2), .val (.int aa3), .val (.int aa4), .val (.int (0 : Int32)), .val (.int (own_ch u0)), .val (.int (own_ch u1)), .val (.int (own_ch u2)), .val (.int (own_ch u3)), .unset, .unset, .unset] [(.int aa4)])) rfl (hb hby at_40) _ (XS.iand X0.here hx rfl (hb hby at_42) rfl (XS.i2c X0.here hx rfl (hb hby at_43) rfl kz))))) ?_
  show Go _ _ _ _ _ s₁ (mkF m 44 #[.val (.int pp), .val (.int aa0), .val (.int aa1), .val (.int aa2), .val (.int aa3), .val (.int aa4), .val (.int (0 : Int32)), .val (.int (own_ch u0)), .val (.int (own_ch u1)), .val (.int (own_ch u2)), .val (.int (own_ch u3)), .unset, .unset, .unset] [(.int ((aa4 &&& (65535 : Int32)).toUInt32.toUInt16.toUInt32.toInt32))])
  rw [hu4]
  show Go _ _ _ _ _ s₁ (mkF m 44 #[.val (.int pp), .val (.int aa0), .val (.int aa1), .val (.int aa2), .val (.int aa3), .val (.int aa4), .val (.int (0 : Int32)), .val (.int (own_ch u0)), .val (.int (own_ch u1)), .val (.int (own_ch u2)), .val (.int (own_ch u3)), .unset, .unset, .unset] [(.int (own_ch u4))])
  refine Go.of (fun _ kz => XS.istore X0.here hx rfl (hb hby at_44) rfl (l' := #[.val (.int pp), .val (.int aa0), .val (.int aa1), .val (.int aa2), .val (.int aa3), .val (.int aa4), .val (.int (0 : Int32)), .val (.int (own_ch u0)), .val (.int (own_ch u1)), .val (.int (own_ch u2)), .val (.int (own_ch u3)), .val (.int (own_ch u4)), .unset, .unset]) rfl kz) ?_
  obtain ⟨T1, h1, X1, e1, E1, A1, D1, -, st1⟩ := newO X0 hx hZ hown (w2 hw) (w3 hw) (w4 hw) e0 (g := (mkF m 46 #[.val (.int pp), .val (.int aa0), .val (.int aa1), .val (.int aa2), .val (.int aa3), .val (.int aa4), .val (.int (0 : Int32)), .val (.int (own_ch u0)), .val (.int (own_ch u1)), .val (.int (own_ch u2)), .val (.int (own_ch u3)), .val (.int (own_ch u4)), .unset, .unset] [])) rfl (hb hby at_46) (by decide) (by decide)
  obtain ⟨b1, g1⟩ : ∃ z, z = h0.size := ⟨_, rfl⟩
  rw [← g1] at A1 D1 st1
  have sf0_b1 : Safe Z own_EL s.vm h0 b1 := Safe.new (Nat.le_of_eq g1.symm)
  have ge_b1 : n0 ≤ b1 := Nat.le_trans (O0.1 ▸ O0.2.1) (Nat.le_of_eq g1.symm)
  have hsz_b1 := Nat.le_of_eq g1.symm
  have sf1_b1 := Safe.ext E1 R0.1 sf0_b1
  have R1 := R0.trans (CHr.ext E1 R0.1)
  have hk1 := Nat.le_trans hk0 E1.1
  have O1 := O0.ext E1
  have F1_value : Fld Z h1 b1 "java/lang/String" "value" "[B" .null := D1 (Or.inr (w22 hw)) (ty := (.array .byte)) (by decide)
  have F1_coder : Fld Z h1 b1 "java/lang/String" "coder" "B" (.int (0 : Int32)) := D1 (Or.inr (w23 hw)) (ty := .byte) (by decide)
  refine Go.of (fun _ kz => st1 _ kz) ?_
  refine Go.of (fun _ kz => XS.dup X1.here hx rfl (hb hby at_49) rfl rfl (XS.iload X1.here hx rfl (hb hby at_50) rfl (XS.iload X1.here hx rfl (hb hby at_52) rfl (XS.iload X1.here hx rfl (hb hby at_54) rfl (XS.iload X1.here hx rfl (hb hby at_56) rfl (XS.iload X1.here hx rfl (hb hby at_58) rfl (XS.iload X1.here hx rfl (hb hby at_60) rfl kz))))))) ?_
  show Go _ _ _ _ _ T1 (mkF m 62 #[.val (.int pp), .val (.int aa0), .val (.int aa1), .val (.int aa2), .val (.int aa3), .val (.int aa4), .val (.int (0 : Int32)), .val (.int (own_ch u0)), .val (.int (own_ch u1)), .val (.int (own_ch u2)), .val (.int (own_ch u3)), .val (.int (own_ch u4)), .unset, .unset] [(.int (own_ch u4)), (.int (own_ch u3)), (.int (own_ch u2)), (.int (own_ch u1)), (.int (own_ch u0)), (.int (0 : Int32)), (.ref b1), (.ref b1)])
  refine Go.callS X1 hx hZ hown (y := y_25) (w5 hw) (w6 hw) (w7 hw) (w8 hw) (by decide) (rm_mk_0 l Z a0 hw [] u0 u1 u2 u3 u4 h1 n0 O1) e1 2 (by decide) (by decide) (by rw [hml]; rfl) (argsL := [(.int (0 : Int32)), (.int (own_ch u0)), (.int (own_ch u1)), (.int (own_ch u2)), (.int (own_ch u3)), (.int (own_ch u4))]) (rest := [(.ref b1), (.ref b1)]) (lenOf pd_17 rfl) rfl rfl (Nat.le_of_eq rfl) (hb hby at_62) (c2 := 2) (s2 := 4) rfl rfl (by decide) (by decide) fun v2 T2 Lc2 L2 X2 l2 hQ2 => ?_
  obtain ⟨b2, kc2, rfl, N2q, K2, hsz2, V2⟩ := hQ2
  have N2 : Fr n0 L2 := by rw [l2]; exact Fr.app N0 N2q
  have ne_b2 : b2 ≠ b1 := fun q => Nat.ne_of_lt (Nat.lt_of_lt_of_le A1.lt hsz2) q.symm
  have sf2_b1 := Safe.keep K2 sf0 R1.1 sf1_b1
  have R2 := R1.trans (CHr.keep K2 sf0 R1.1)
  have hk2 := Nat.le_trans hk1 K2.1
  have f2_Exa_b1 := A1.keep K2
  have f2_Fld_b1_value := F1_value.keep K2 nin0
  have f2_Fld_b1_coder := F1_coder.keep K2 nin0
  have O2 := O1.keep K2 all0
  show Go _ _ _ _ _ T2 (mkF m 65 #[.val (.int pp), .val (.int aa0), .val (.int aa1), .val (.int aa2), .val (.int aa3), .val (.int aa4), .val (.int (0 : Int32)), .val (.int (own_ch u0)), .val (.int (own_ch u1)), .val (.int (own_ch u2)), .val (.int (own_ch u3)), .val (.int (own_ch u4)), .unset, .unset] [(.ref b2), (.ref b1), (.ref b1)])
  refine Go.callIW X2 hx hZ hown (y := y_20) rfl (w10 hw) (w11 hw) (w4 hw) (w12 hw) (by decide) (a := b1) (rm_in1_0 l Z a0 hw [] b1 b2 kc2 T2.heap n0 O2 f2_Exa_b1 f2_Fld_b1_value f2_Fld_b1_coder ge_b1 V2) rfl hEL R2.1 (allS ⟨f2_Exa_b1.lt, sf2_b1⟩ all0) hS0 hk2 1 (by decide) (by decide) (by rw [hml]; rfl) (argsL := [(.ref b2)]) (rest := [(.ref b1)]) (lenOf pd_18 rfl) rfl rfl (Nat.le_of_eq rfl) (hb hby at_65) (c2 := 4) (s2 := 8) rfl rfl (by decide) (by decide) fun v3 T3 Lc3 L3 X3 l3 hQ3 hS3 hZ hown C3 => ?_
  have R3 := R2.trans C3
  have hk3 := Nat.le_refl T3.heap.size
  have sf3_b1 := C3.safe f2_Exa_b1.lt sf2_b1
  obtain ⟨rfl, N3q, K3, Es3, sb3, skb3, Fv3, Fc3, Vs3⟩ := hQ3
  have N3 : Fr n0 L3 := by rw [l3]; exact Fr.app N2 N3q
  have f3_Exa_b1 := f2_Exa_b1.keep K3
  have f3_Arv_b2 := V2.keep K3 (ninS ne_b2 nin0)
  have O3 := O2.keep K3 (allS ge_b1 all0)
  refine Go.of (fun _ kz => XS.astore X3.here hx rfl (hb hby at_68) rfl rfl (l' := #[.val (.int pp), .val (.int aa0), .val (.int aa1), .val (.int aa2), .val (.int aa3), .val (.int aa4), .val (.int (0 : Int32)), .val (.int (own_ch u0)), .val (.int (own_ch u1)), .val (.int (own_ch u2)), .val (.int (own_ch u3)), .val (.int (own_ch u4)), .val (.ref b1), .unset]) rfl (XS.iload X3.here hx rfl (hb hby at_70) rfl (XS.iconst X3.here hx rfl (hb hby at_72) kz))) ?_
  refine Go.of (fun _ kz => XS.icmpYes X3.here hx rfl (pc0 := 73) (pc' := 144) rfl (hb hby at_73) rfl (tlt (by decide : (0 : Int32) < (1 : Int32))).1 (by decide) (by decide) kz) ?_
  refine Go.of (fun _ kz => XS.iconst X3.here hx rfl (hb hby at_144) (XS.istore X3.here hx rfl (hb hby at_145) rfl (l' := #[.val (.int pp), .val (.int aa0), .val (.int aa1), .val (.int aa2), .val (.int aa3), .val (.int aa4), .val (.int (0 : Int32)), .val (.int (own_ch u0)), .val (.int (own_ch u1)), .val (.int (own_ch u2)), .val (.int (own_ch u3)), .val (.int (own_ch u4)), .val (.ref b1), .val (.int (0 : Int32))]) rfl (XS.aload X3.here hx rfl (hb hby at_147) rfl rfl kz))) ?_
  show Go _ _ _ _ _ T3 (mkF m 149 #[.val (.int pp), .val (.int aa0), .val (.int aa1), .val (.int aa2), .val (.int aa3), .val (.int aa4), .val (.int (0 : Int32)), .val (.int (own_ch u0)), .val (.int (own_ch u1)), .val (.int (own_ch u2)), .val (.int (own_ch u3)), .val (.int (own_ch u4)), .val (.ref b1), .val (.int (0 : Int32))] [(.ref b1)])
  refine Go.callS X3 hx hZ hown (y := y_24) (w28 hw) (w29 hw) (w30 hw) (w31 hw) (by decide) (rm_nm_0 l Z a0 hw [] b1 sb3 skb3 T3.heap n0 O3 Es3 Fv3 Vs3) rfl 0 (by decide) (by decide) (by rw [hml]; rfl) (argsL := [(.ref b1)]) (rest := []) (lenOf pd_19 rfl) rfl rfl (Nat.le_of_eq rfl) (hb hby at_149) (c2 := 4) (s2 := 8) rfl rfl (by decide) (by decide) fun v4 T4 Lc4 L4 X4 l4 hQ4 => ?_
  obtain ⟨rfl, N4q, e4⟩ := hQ4
  have N4 : Fr n0 L4 := by rw [l4]; exact Fr.app N3 N4q
  refine Go.of (fun _ kz => XS.iload X4.here hx rfl (hb hby at_152) rfl kz) ?_
  refine Go.of (fun _ kz => XS.icmpNo X4.here hx rfl (hb hby at_154) rfl (teq (by decide : (0 : Int32) = (0 : Int32))).2 kz) ?_
  refine Go.of (fun _ kz => XS.iconst X4.here hx rfl (hb hby at_157) (XS.goto X4.here hx rfl (pc0 := 158) (pc' := 162) rfl (hb hby at_158) (by decide) (by decide) kz)) ?_
  refine Go.retW X4 hZ hEL hS3 hk3 e4 hh R3 (v := some (.int (1 : Int32))) (fun h => by rw [Bd.returns] at h; cases h) Bd.notSynchronized (fun fs hr => retN X4 hx (t := .boolean) Bd.returns (by simp) (hb hby at_162) hr) (by decide) (by decide) ?_
  show Q_rm0z Z _ _ _ _ _ _ _ _ _ _ _ h0 n0 _ T4.heap _
  rw [e4]
  exact ⟨rfl, N4⟩

theorem own_mod6 (x : Int32) : (x &&& (2147483647 : Int32)) % (6 : Int32) = 0 ∨ (x &&& (2147483647 : Int32)) % (6 : Int32) = 1 ∨ (x &&& (2147483647 : Int32)) % (6 : Int32) = 2 ∨ (x &&& (2147483647 : Int32)) % (6 : Int32) = 3 ∨ (x &&& (2147483647 : Int32)) % (6 : Int32) = 4 ∨ (x &&& (2147483647 : Int32)) % (6 : Int32) = 5 := by
  have e1 := Jvm.Kit.i32_mask x 2147483647 (k := 31) (by decide) (by decide)
  have h0 : 0 ≤ (x &&& (2147483647 : Int32)).toInt := by omega
  have e2 : ((x &&& (2147483647 : Int32)) % (6 : Int32)).toInt = (x &&& (2147483647 : Int32)).toInt.tmod 6 := Int32.toInt_mod _ _
  rw [Int.tmod_eq_emod_of_nonneg h0] at e2
  generalize (x &&& (2147483647 : Int32)) % (6 : Int32) = k at *
  have h : k.toInt = 0 ∨ k.toInt = 1 ∨ k.toInt = 2 ∨ k.toInt = 3 ∨ k.toInt = 4 ∨ k.toInt = 5 := by omega
  rcases h with h | h | h | h | h | h
  · exact Or.inl (Int32.toInt_inj.mp (h.trans (by decide : (0 : Int) = (0 : Int32).toInt)))
  · exact Or.inr (Or.inl (Int32.toInt_inj.mp (h.trans (by decide : (1 : Int) = (1 : Int32).toInt))))
  · exact Or.inr (Or.inr (Or.inl (Int32.toInt_inj.mp (h.trans (by decide : (2 : Int) = (2 : Int32).toInt)))))
  · exact Or.inr (Or.inr (Or.inr (Or.inl (Int32.toInt_inj.mp (h.trans (by decide : (3 : Int) = (3 : Int32).toInt))))))
  · exact Or.inr (Or.inr (Or.inr (Or.inr (Or.inl (Int32.toInt_inj.mp (h.trans (by decide : (4 : Int) = (4 : Int32).toInt)))))))
  · exact Or.inr (Or.inr (Or.inr (Or.inr (Or.inr ((Int32.toInt_inj.mp (h.trans (by decide : (5 : Int) = (5 : Int32).toInt))))))))

set_option maxRecDepth 65536 in
set_option maxHeartbeats 40000000 in
theorem comes_1 {Post : Tables → Env → Array Value → State → Outcome → State → Prop} (hpost : ∀ tb e args s v u, (limb_1_1.after args s (.returned v) u = true ∧ limb_1_2.after args s (.returned v) u = true ∧ True) → FramedW s (.returned v) u (Jvm.fieldLocs frame_1_writes args s ++ Jvm.arrayLocs frame_1_arrays args s ++ Jvm.staticLocs frame_1_statics s) 24 1152 → Post tb e args s (.returned v) u) :
    ArmFor flags0 classFile x code maxLocals ret World_1 tables_1 room_1 Calls_1 rest_1 Pre_1 Post := by
  intro l hfl _ _ p e hadm hcas hclk s m args below hf hA hF happ hP
  obtain ⟨hcalls, hrest, hpre⟩ := hP
  obtain ⟨-, -, -, hnamed, -, -, -, hat⟩ := (Spec.applies_iff hf).mp happ
  obtain ⟨hg, hn⟩ := and_e (Cond.before_iff.mp (show (Jvm.Cond.and given_1 narrow_1).before args s = true from hpre))
  have hc0 := (and_e hg).1
  have hg0 := (and_e hg).2
  have ga0 := (and_e hg0).1
  have hg1 := (and_e hg0).2
  have ga1 := (and_e hg1).1
  have hg2 := (and_e hg1).2
  have ga2 := (and_e hg2).1
  have hg3 := (and_e hg2).2
  have ga3 := (and_e hg3).1
  have hg4 := (and_e hg3).2
  have ga4 := (and_e hg4).1
  have hg5 := (and_e hg4).2
  have ga5 := hg5
  obtain ⟨w0, w1, w2, w3, w4, w5, rfl⟩ : ∃ w0 w1 w2 w3 w4 w5 : Value, args = #[w0, w1, w2, w3, w4, w5] := by
    have hs : args.size = 6 := by simpa [Cond.value, given_1] using hc0
    obtain ⟨L⟩ := args
    match L, hs with
    | [w0, w1, w2, w3, w4, w5], _ => exact ⟨w0, w1, w2, w3, w4, w5, rfl⟩
  have hw := fun d (hd : d ∈ tables_1) => atoms_spec (ws := Jvm.Cond.code x code maxLocals ret :: tables_1) hat d (List.mem_cons_of_mem _ hd)
  have hfit : Fit s := fun {y c} hc i hi => by
    obtain ⟨ha, rfl⟩ := Array.getElem?_eq_some_iff.mp hc
    have q := List.all_eq_true.mp ((Array.all_eq_true_iff_forall_mem.mp hF) _ (Array.getElem_mem ha)) i (List.mem_range.mpr hi)
    simpa [Array.getElem?_eq_getElem hi] using q
  obtain ⟨hsets, hown0⟩ := atoms_of _ (rest_1_c_eq ▸ (show rest_1_c.before _ s = true from hrest))
  obtain ⟨i0, ei0⟩ := is_v ga0
  obtain rfl : w0 = (.int i0) := Option.some.inj ei0
  obtain ⟨i1, ei1⟩ := is_v ga1
  obtain rfl : w1 = (.int i1) := Option.some.inj ei1
  obtain ⟨i2, ei2⟩ := is_v ga2
  obtain rfl : w2 = (.int i2) := Option.some.inj ei2
  obtain ⟨i3, ei3⟩ := is_v ga3
  obtain rfl : w3 = (.int i3) := Option.some.inj ei3
  obtain ⟨i4, ei4⟩ := is_v ga4
  obtain rfl : w4 = (.int i4) := Option.some.inj ei4
  obtain ⟨i5, ei5⟩ := is_v ga5
  obtain rfl : w5 = (.int i5) := Option.some.inj ei5
  obtain ⟨csz, ecs⟩ := is_v (Cond.before_iff.mp (hsets _ (List.mem_of_getElem? (i := 1) rfl)))
  have hcs : csz ≠ 0 := gotF (Cond.eq_ints ecs (Term.int_eval _)) (not_v (Cond.before_iff.mp (hsets _ (List.mem_of_getElem? (i := 2) rfl))))
  have Scs := Sta.start ecs (Or.inl (hsets _ (List.mem_of_getElem? (i := 0) rfl)))
  obtain ⟨vf, evf, hvf⟩ := isR_v (Cond.before_iff.mp (hsets _ (List.mem_of_getElem? (i := 8) rfl)))
  have Sf := Sta.start evf (Or.inl (hsets _ (List.mem_of_getElem? (i := 7) rfl)))
  have Sas := Sta.start (own_eqI (Cond.before_iff.mp (hsets _ (List.mem_of_getElem? (i := 12) rfl)))) (Or.inl (hsets _ (List.mem_of_getElem? (i := 11) rfl)))
  have Shi := Sta.start (own_eqI (Cond.before_iff.mp (hsets _ (List.mem_of_getElem? (i := 15) rfl)))) (Or.inl (hsets _ (List.mem_of_getElem? (i := 14) rfl)))
  have Slo := Sta.start (own_eqI (Cond.before_iff.mp (hsets _ (List.mem_of_getElem? (i := 18) rfl)))) (Or.inl (hsets _ (List.mem_of_getElem? (i := 17) rfl)))
  rcases own_mod6 i0 with hk | hk | hk | hk | hk | hk
  · obtain ⟨n, o, h1, h2, h3, _, L, rfl, ⟨rfl, N⟩, -, hq⟩ := rm0z l s _ hw tables_1 i0 i1 i2 i3 i4 i5 (i1 &&& (65535 : Int32)).toUInt32.toUInt16 (i2 &&& (65535 : Int32)).toUInt32.toUInt16 (i3 &&& (65535 : Int32)).toUInt32.toUInt16 (i4 &&& (65535 : Int32)).toUInt32.toUInt16 (i5 &&& (65535 : Int32)).toUInt32.toUInt16 s.heap s.heap.size (Old.start s) hk rfl rfl rfl rfl rfl p e hadm hcas hclk s m _ below hf ((Spec.applies_iff_loose hf).mp happ).1 ⟨rfl, State.Warmed39.refl s, rfl, CHv.start (own_ELw hw) (fun p hp => hcalls.1 p hp) (hsets _ (List.mem_of_getElem? (i := 2) rfl)) (w21 hw) (w3 hw), fun _ q => nomatch q⟩ trivial
    exact ⟨n, _, h1, h2, h3, hpost _ _ _ _ _ _ ⟨Cond.after_iff.mpr rfl, Cond.after_iff.mpr (eq_i res_at (Term.int_eval (1)) rfl), trivial⟩ ⟨hq.1, hq.2.1, hq.2.2.1, (hq.2.2.2.sift fun y hy => Or.inr (N y hy)).mono (by decide) (by decide)⟩⟩
  all_goals
    obtain ⟨n, o, h1, h2, h3, _, L, rfl, ⟨rfl, N⟩, hq⟩ := rm0 l s _ hw tables_1 i0 _ i1 i2 i3 i4 i5 (i1 &&& (65535 : Int32)).toUInt32.toUInt16 (i2 &&& (65535 : Int32)).toUInt32.toUInt16 (i3 &&& (65535 : Int32)).toUInt32.toUInt16 (i4 &&& (65535 : Int32)).toUInt32.toUInt16 (i5 &&& (65535 : Int32)).toUInt32.toUInt16 csz vf s.heap s.heap.size (Old.start s) hk (by decide) rfl rfl rfl rfl rfl Scs hcs Sf hvf Sas Shi Slo p e hadm hcas hclk s m _ below hf ((Spec.applies_iff_loose hf).mp happ).1 ⟨rfl, State.Warmed39.refl s, rfl⟩ trivial
    exact ⟨n, _, h1, h2, h3, hpost _ _ _ _ _ _ ⟨Cond.after_iff.mpr rfl, Cond.after_iff.mpr (eq_i res_at (Term.int_eval (1)) rfl), trivial⟩ (Jvm.RoadKit.wide ⟨hq.1, hq.2.1, (hq.2.2.sift fun y hy => Or.inr (N y hy)).mono (by decide) (by decide)⟩)⟩
theorem main_1_1 : Claimed_1_1 := comes_1 fun _ _ _ _ _ _ h hF => ⟨h.1, hF⟩
theorem main_1_2 : Claimed_1_2 := comes_1 fun _ _ _ _ _ _ h hF => ⟨h.2.1, hF⟩

end Jvm.Pilot.@@N@@

namespace Jvm.Pilot.@@N@@
open Jvm Jvm.ClassFile Sem Op Lib Jvm.Free Jvm.Stand Jvm.Pilot.@@N@@.Jvm.D
/-! MADE BY PROGRAM (witnessworld.py) out of the Statement's table words and the real class files: 20 classes; the members and pool entries that the words name. The judged class is class 1, her method 4. -/
namespace start1
open Jvm.ClassFile
def u (s : String) : CpInfo := .utf8 (stringToUtf16 s)
/-- a pool by its gaps: so many unusable entries, then the entry; so many at the end -/
def gap : Nat → List CpInfo → List CpInfo
  | 0, r => r
  | n + 1, r => .unusable :: gap n r
def poolList (es : List (Nat × CpInfo)) (last : Nat) : List CpInfo := es.foldr (fun e r => gap e.1 (e.2 :: r)) (gap last [])
def pool (es : List (Nat × CpInfo)) (last : Nat) : Array CpInfo := ⟨poolList es last⟩
def fileOf (pool : Array CpInfo) (this : Nat) (attrs : Array Attribute := #[]) (ms : Array MethodInfo := #[]) (fl : Nat := 33) (sup : Nat := 0) (ifs : Array Nat := #[]) (fds : Array FieldInfo := #[]) : ClassFile where
  minorVersion := 0
  majorVersion := 65
  constantPool := pool
  accessFlags := fl
  thisClass := this
  superClass := sup
  interfaces := ifs
  fields := fds
  methods := ms
  attributes := attrs
def plain (name : String) (sup : Option ClassId) : Class where
  name := name
  kind := .ordinary
  loader := none
  accessFlags := 33
  super := sup
  interfaces := #[]
  cf := none
  fields := #[]
  methods := #[]
  instanceTypes := #[]
  staticTypes := #[]
  resolved := #[]
  callSites := []
  init := .initialized
  statics := none
  mirror := none

def pool0 : Array CpInfo := pool [(5, u "<init>"), (0, u "()V"), (1, .class_ 10), (1, u "java/lang/Object")] 113

def k0c0 : Code := { maxStack := 0, maxLocals := 1, code := object_method_1_code, exceptionTable := #[], attributes := #[] }
def k0m0 : Method := { name := "<init>", desc := "()V", sig := { parameters := [], returnType := none }, accessFlags := 1, code := some k0c0 }
/-- java/lang/Object -/
def k0 : Class := { plain "java/lang/Object" none with
  accessFlags := 33
  interfaces := #[]
  cf := some (fileOf pool0 8 #[] #[{ accessFlags := 1, nameIndex := 5, descriptorIndex := 6, attributes := #[] }] 33 0 #[] #[])
  fields := #[]
  methods := #[k0m0]
  instanceTypes := #[]
  staticTypes := #[]
  resolved := Array.replicate 124 none
  statics := none }

def pool1 : Array CpInfo := pool [(2, .class_ 4), (1, u "java/lang/Object"), (0, u "<init>"), (0, u "()V"), (0, .methodref 8 9), (0, .class_ 10), (0, .nameAndType 11 12), (0, u "com/example/fulla/fulla/model/LatticeIsNamePinLaw"), (0, u "letter"), (0, u "(C)Z"), (0, .integer 2147483647), (0, .integer 65535), (0, .class_ 16), (0, u "java/lang/String"), (0, .methodref 8 18), (0, .nameAndType 19 20), (0, u "make"), (0, u "(ICCCCC)[C"), (0, .methodref 15 22), (0, .nameAndType 5 23), (0, u "([C)V"), (0, .methodref 8 25), (0, .nameAndType 26 12), (0, u "later"), (0, .methodref 28 29), (0, .class_ 30), (0, .nameAndType 31 32), (0, u "com/example/fulla/fulla/model/Lattice"), (0, u "isName"), (0, u "(Ljava/lang/String;)Z"), (3, u "law"), (0, u "(IIIIII)Z")] 2

def k1m0 : Method := { name := "<init>", desc := "()V", sig := { parameters := [], returnType := none }, accessFlags := 1, code := none }
def k1c1 : Code := { maxStack := 2, maxLocals := 1, code := method_2_code, exceptionTable := #[], attributes := #[] }
def k1m1 : Method := { name := "letter", desc := "(C)Z", sig := { parameters := [.char], returnType := some .boolean }, accessFlags := 10, code := some k1c1 }
def k1c2 : Code := { maxStack := 2, maxLocals := 1, code := method_3_code, exceptionTable := #[], attributes := #[] }
def k1m2 : Method := { name := "later", desc := "(C)Z", sig := { parameters := [.char], returnType := some .boolean }, accessFlags := 10, code := some k1c2 }
def k1c3 : Code := { maxStack := 4, maxLocals := 6, code := method_4_code, exceptionTable := #[], attributes := #[] }
def k1m3 : Method := { name := "make", desc := "(ICCCCC)[C", sig := { parameters := [.int, .char, .char, .char, .char, .char], returnType := some (.array .char) }, accessFlags := 10, code := some k1c3 }
def k1c4 : Code := { maxStack := 8, maxLocals := 14, code := code, exceptionTable := #[], attributes := #[] }
def k1m4 : Method := { name := "law", desc := "(IIIIII)Z", sig := { parameters := [.int, .int, .int, .int, .int, .int], returnType := some .boolean }, accessFlags := 9, code := some k1c4 }
/-- com/example/fulla/fulla/model/LatticeIsNamePinLaw -/
def k1 : Class := { plain "com/example/fulla/fulla/model/LatticeIsNamePinLaw" (some 0) with
  accessFlags := 49
  interfaces := #[]
  cf := some (fileOf pool1 8 #[] #[{ accessFlags := 1, nameIndex := 5, descriptorIndex := 6, attributes := #[] }, { accessFlags := 10, nameIndex := 11, descriptorIndex := 12, attributes := #[] }, { accessFlags := 10, nameIndex := 26, descriptorIndex := 12, attributes := #[] }, { accessFlags := 10, nameIndex := 19, descriptorIndex := 20, attributes := #[] }, { accessFlags := 9, nameIndex := 36, descriptorIndex := 37, attributes := #[] }] 49 2 #[] #[])
  fields := #[]
  methods := #[k1m0, k1m1, k1m2, k1m3, k1m4]
  instanceTypes := #[]
  staticTypes := #[]
  resolved := Array.replicate 40 none
  statics := none }

def pool2 : Array CpInfo := pool [(1, .class_ 2), (0, u "java/io/Serializable"), (0, .class_ 4), (0, u "java/lang/Object")] 2

/-- java/io/Serializable -/
def k2 : Class := { plain "java/io/Serializable" (some 0) with
  accessFlags := 1537
  interfaces := #[]
  cf := some (fileOf pool2 1 #[] #[] 1537 3 #[] #[])
  fields := #[]
  methods := #[]
  instanceTypes := #[]
  staticTypes := #[]
  resolved := Array.replicate 7 none
  statics := none }

def pool3 : Array CpInfo := pool [(1, .class_ 2), (0, u "java/lang/Comparable"), (0, .class_ 4), (0, u "java/lang/Object")] 7

/-- java/lang/Comparable -/
def k3 : Class := { plain "java/lang/Comparable" (some 0) with
  accessFlags := 1537
  interfaces := #[]
  cf := some (fileOf pool3 1 #[] #[] 1537 3 #[] #[])
  fields := #[]
  methods := #[]
  instanceTypes := #[]
  staticTypes := #[]
  resolved := Array.replicate 12 none
  statics := none }

def pool4 : Array CpInfo := pool [(2, .class_ 4), (1, u "java/lang/CharSequence"), (42, .class_ 48), (0, u "java/lang/CharSequence$1CodePointIterator"), (10, .class_ 60), (0, u "java/lang/CharSequence$1CharIterator"), (5, .class_ 67), (0, u "java/lang/Object")] 63

/-- java/lang/CharSequence -/
def k4 : Class := { plain "java/lang/CharSequence" (some 0) with
  accessFlags := 1537
  interfaces := #[]
  cf := some (fileOf pool4 2 #[.nestMembers #[47, 59]] #[] 1537 66 #[] #[])
  fields := #[]
  methods := #[]
  instanceTypes := #[]
  staticTypes := #[]
  resolved := Array.replicate 131 none
  statics := none }

def pool5 : Array CpInfo := pool [(1, .class_ 2), (0, u "java/lang/constant/Constable"), (0, .class_ 4), (0, u "java/lang/Object")] 6

/-- java/lang/constant/Constable -/
def k5 : Class := { plain "java/lang/constant/Constable" (some 0) with
  accessFlags := 1537
  interfaces := #[]
  cf := some (fileOf pool5 1 #[] #[] 1537 3 #[] #[])
  fields := #[]
  methods := #[]
  instanceTypes := #[]
  staticTypes := #[]
  resolved := Array.replicate 11 none
  statics := none }

def pool6 : Array CpInfo := pool [(1, .class_ 2), (0, u "java/lang/constant/ConstantDesc"), (0, .class_ 4), (0, u "java/lang/Object")] 32

/-- java/lang/constant/ConstantDesc -/
def k6 : Class := { plain "java/lang/constant/ConstantDesc" (some 0) with
  accessFlags := 1537
  interfaces := #[]
  cf := some (fileOf pool6 1 #[] #[] 1537 3 #[] #[])
  fields := #[]
  methods := #[]
  instanceTypes := #[]
  staticTypes := #[]
  resolved := Array.replicate 37 none
  statics := none }

def pool7 : Array CpInfo := pool [(1, .methodref 2 3), (0, .class_ 4), (0, .nameAndType 5 6), (0, u "java/lang/Object"), (0, u "<init>"), (0, u "()V"), (0, .string 8), (0, u ""), (0, .fieldref 10 11), (0, .class_ 12), (0, .nameAndType 13 14), (0, u "java/lang/String"), (0, u "value"), (0, u "[B"), (0, .fieldref 10 16), (0, .nameAndType 17 18), (0, u "coder"), (0, u "B"), (2, u "hash"), (0, u "I"), (2, u "hashIsZero"), (0, u "Z"), (0, .methodref 10 28), (0, .nameAndType 5 29), (0, u "([CIILjava/lang/Void;)V"), (8, .fieldref 10 39), (0, .nameAndType 40 26), (0, u "COMPACT_STRINGS"), (1, .class_ 44), (1, u "java/lang/StringUTF16"), (0, u "compress"), (1, .methodref 42 48), (0, .nameAndType 49 50), (0, u "coderFromArrayLen"), (0, u "([BI)B"), (56, .class_ 109), (1, u "java/lang/StringLatin1"), (32, u "()Z"), (34, .methodref 42 178), (0, .nameAndType 45 179), (0, u "([CII)[B"), (154, u "()I"), (0, .methodref 10 336), (0, .nameAndType 17 337), (0, u "()B"), (25, u "([BI)C"), (27, u "(II)V"), (35, u "(I)C"), (64, .methodref 10 493), (0, .nameAndType 494 142), (0, u "isLatin1"), (0, .methodref 107 496), (0, .nameAndType 497 363), (0, u "charAt"), (0, .methodref 42 496), (2, u "checkIndex"), (5, u "length"), (67, .class_ 576), (0, u "java/lang/CharSequence"), (22, u "CASE_INSENSITIVE_ORDER"), (0, u "Ljava/util/Comparator;"), (91, u "isEmpty"), (317, u "([C)V"), (42, .fieldref 1054 1055), (0, .class_ 1056), (0, .nameAndType 1057 1058), (0, u "jdk/internal/util/Preconditions"), (0, u "SIOOBE_FORMATTER"), (0, u "Ljava/util/function/BiFunction;"), (0, .methodref 1054 1060), (0, .nameAndType 501 1061), (0, u "(IILjava/util/function/BiFunction;)I"), (39, u "serialPersistentFields"), (0, u "[Ljava/io/ObjectStreamField;"), (0, .class_ 1104), (0, u "java/lang/String$CaseInsensitiveComparator"), (1, .class_ 1107), (0, u "java/io/Serializable"), (0, .class_ 1109), (0, u "java/lang/Comparable"), (0, .class_ 1111), (0, u "java/lang/constant/Constable"), (0, .class_ 1113), (0, u "java/lang/constant/ConstantDesc"), (2, u "serialVersionUID"), (0, u "J"), (3, u "REPL"), (0, u "C"), (2, u "LATIN1"), (1, u "UTF16")] 323

def k7m0 : Method := { name := "<init>", desc := "()V", sig := { parameters := [], returnType := none }, accessFlags := 1, code := none }
def k7c1 : Code := { maxStack := 5, maxLocals := 2, code := jdk_42_method_3_code, exceptionTable := #[], attributes := #[] }
def k7m1 : Method := { name := "<init>", desc := "([C)V", sig := { parameters := [(.array .char)], returnType := none }, accessFlags := 1, code := some k7c1 }
def k7c2 : Code := { maxStack := 2, maxLocals := 1, code := jdk_42_method_54_code, exceptionTable := #[], attributes := #[] }
def k7m2 : Method := { name := "length", desc := "()I", sig := { parameters := [], returnType := some .int }, accessFlags := 1, code := some k7c2 }
def k7c3 : Code := { maxStack := 1, maxLocals := 1, code := jdk_42_method_55_code, exceptionTable := #[], attributes := #[] }
def k7m3 : Method := { name := "isEmpty", desc := "()Z", sig := { parameters := [], returnType := some .boolean }, accessFlags := 1, code := some k7c3 }
def k7c4 : Code := { maxStack := 2, maxLocals := 2, code := jdk_42_method_56_code, exceptionTable := #[], attributes := #[] }
def k7m4 : Method := { name := "charAt", desc := "(I)C", sig := { parameters := [.int], returnType := some .char }, accessFlags := 1, code := some k7c4 }
def k7c5 : Code := { maxStack := 4, maxLocals := 6, code := jdk_42_method_149_code, exceptionTable := #[], attributes := #[] }
def k7m5 : Method := { name := "<init>", desc := "([CIILjava/lang/Void;)V", sig := { parameters := [(.array .char), .int, .int, (.object "java/lang/Void")], returnType := none }, accessFlags := 2, code := some k7c5 }
def k7c6 : Code := { maxStack := 1, maxLocals := 1, code := jdk_42_method_152_code, exceptionTable := #[], attributes := #[] }
def k7m6 : Method := { name := "coder", desc := "()B", sig := { parameters := [], returnType := some .byte }, accessFlags := 0, code := some k7c6 }
def k7c7 : Code := { maxStack := 1, maxLocals := 1, code := jdk_42_method_154_code, exceptionTable := #[], attributes := #[] }
def k7m7 : Method := { name := "isLatin1", desc := "()Z", sig := { parameters := [], returnType := some .boolean }, accessFlags := 0, code := some k7c7 }
def k7c8 : Code := { maxStack := 3, maxLocals := 2, code := jdk_42_method_155_code, exceptionTable := #[], attributes := #[] }
def k7m8 : Method := { name := "checkIndex", desc := "(II)V", sig := { parameters := [.int, .int], returnType := none }, accessFlags := 8, code := some k7c8 }
/-- java/lang/String -/
def k7 : Class := { plain "java/lang/String" (some 0) with
  accessFlags := 49
  interfaces := #[2, 3, 4, 5, 6]
  cf := some (fileOf pool7 10 #[.nestMembers #[1103]] #[{ accessFlags := 1, nameIndex := 5, descriptorIndex := 6, attributes := #[] }, { accessFlags := 1, nameIndex := 5, descriptorIndex := 1010, attributes := #[] }, { accessFlags := 1, nameIndex := 507, descriptorIndex := 334, attributes := #[] }, { accessFlags := 1, nameIndex := 692, descriptorIndex := 142, attributes := #[] }, { accessFlags := 1, nameIndex := 497, descriptorIndex := 427, attributes := #[] }, { accessFlags := 2, nameIndex := 5, descriptorIndex := 29, attributes := #[] }, { accessFlags := 0, nameIndex := 17, descriptorIndex := 337, attributes := #[] }, { accessFlags := 0, nameIndex := 494, descriptorIndex := 142, attributes := #[] }, { accessFlags := 8, nameIndex := 501, descriptorIndex := 391, attributes := #[] }] 49 2 #[1106, 1108, 575, 1110, 1112] #[{ accessFlags := 18, nameIndex := 13, descriptorIndex := 14, attributes := #[] }, { accessFlags := 18, nameIndex := 17, descriptorIndex := 18, attributes := #[] }, { accessFlags := 2, nameIndex := 21, descriptorIndex := 22, attributes := #[] }, { accessFlags := 2, nameIndex := 25, descriptorIndex := 26, attributes := #[] }, { accessFlags := 26, nameIndex := 1116, descriptorIndex := 1117, attributes := #[] }, { accessFlags := 24, nameIndex := 40, descriptorIndex := 26, attributes := #[] }, { accessFlags := 26, nameIndex := 1101, descriptorIndex := 1102, attributes := #[] }, { accessFlags := 26, nameIndex := 1121, descriptorIndex := 1122, attributes := #[] }, { accessFlags := 25, nameIndex := 599, descriptorIndex := 600, attributes := #[] }, { accessFlags := 24, nameIndex := 1125, descriptorIndex := 18, attributes := #[] }, { accessFlags := 24, nameIndex := 1127, descriptorIndex := 18, attributes := #[] }])
  fields := #[{ name := "value", type := (.array .byte), accessFlags := 18, slot := 0, constantValue := 0 }, { name := "coder", type := .byte, accessFlags := 18, slot := 1, constantValue := 0 }, { name := "hash", type := .int, accessFlags := 2, slot := 2, constantValue := 0 }, { name := "hashIsZero", type := .boolean, accessFlags := 2, slot := 3, constantValue := 0 }, { name := "serialVersionUID", type := .long, accessFlags := 26, slot := 0, constantValue := 0 }, { name := "COMPACT_STRINGS", type := .boolean, accessFlags := 24, slot := 1, constantValue := 0 }, { name := "serialPersistentFields", type := (.array (.object "java/io/ObjectStreamField")), accessFlags := 26, slot := 2, constantValue := 0 }, { name := "REPL", type := .char, accessFlags := 26, slot := 3, constantValue := 0 }, { name := "CASE_INSENSITIVE_ORDER", type := (.object "java/util/Comparator"), accessFlags := 25, slot := 4, constantValue := 0 }, { name := "LATIN1", type := .byte, accessFlags := 24, slot := 5, constantValue := 0 }, { name := "UTF16", type := .byte, accessFlags := 24, slot := 6, constantValue := 0 }]
  methods := #[k7m0, k7m1, k7m2, k7m3, k7m4, k7m5, k7m6, k7m7, k7m8]
  instanceTypes := #[(.array .byte), .byte, .int, .boolean]
  staticTypes := #[.long, .boolean, (.array (.object "java/io/ObjectStreamField")), .char, (.object "java/util/Comparator"), .byte, .byte]
  resolved := Array.replicate 1451 none
  statics := some 0 }

def pool8 : Array CpInfo := pool [(2, .class_ 4), (1, u "java/lang/Object"), (3, .class_ 10), (1, u "com/example/fulla/fulla/model/Lattice$Builder"), (0, u "levels"), (0, u "Ljava/util/List;"), (7, .class_ 21), (0, u "com/example/fulla/fulla/model/Lattice"), (2, u "categories"), (3, u "levelPlaces"), (0, u "Ljava/util/Map;"), (8, u "categoryPlaces"), (7, u "translations"), (2, u "translationNames"), (2, u "translationDashes"), (0, u "I"), (0, .methodref 55 56), (0, .class_ 57), (0, .nameAndType 58 59), (0, u "java/lang/String"), (0, u "isEmpty"), (0, u "()Z"), (0, .methodref 55 61), (0, .nameAndType 62 63), (0, u "charAt"), (0, u "(I)C"), (0, .methodref 20 65), (0, .nameAndType 66 67), (0, u "isAsciiLetter"), (0, u "(C)Z"), (0, .methodref 55 69), (0, .nameAndType 70 71), (0, u "length"), (0, u "()I"), (2, u "isName"), (0, u "(Ljava/lang/String;)Z"), (152, u "UNLABELLED"), (0, u "Lcom/example/fulla/fulla/model/Lattice;")] 68

def k8c0 : Code := { maxStack := 2, maxLocals := 3, code := prog_60_method_3_code, exceptionTable := #[], attributes := #[] }
def k8m0 : Method := { name := "isName", desc := "(Ljava/lang/String;)Z", sig := { parameters := [(.object "java/lang/String")], returnType := some .boolean }, accessFlags := 9, code := some k8c0 }
def k8c1 : Code := { maxStack := 2, maxLocals := 1, code := prog_60_method_5_code, exceptionTable := #[], attributes := #[] }
def k8m1 : Method := { name := "isAsciiLetter", desc := "(C)Z", sig := { parameters := [.char], returnType := some .boolean }, accessFlags := 10, code := some k8c1 }
/-- com/example/fulla/fulla/model/Lattice -/
def k8 : Class := { plain "com/example/fulla/fulla/model/Lattice" (some 0) with
  accessFlags := 33
  interfaces := #[]
  cf := some (fileOf pool8 20 #[.nestMembers #[8]] #[{ accessFlags := 9, nameIndex := 74, descriptorIndex := 75, attributes := #[] }, { accessFlags := 10, nameIndex := 66, descriptorIndex := 67, attributes := #[] }] 33 2 #[] #[{ accessFlags := 25, nameIndex := 228, descriptorIndex := 229, attributes := #[] }, { accessFlags := 18, nameIndex := 11, descriptorIndex := 12, attributes := #[] }, { accessFlags := 18, nameIndex := 24, descriptorIndex := 12, attributes := #[] }, { accessFlags := 18, nameIndex := 28, descriptorIndex := 29, attributes := #[] }, { accessFlags := 18, nameIndex := 38, descriptorIndex := 29, attributes := #[] }, { accessFlags := 18, nameIndex := 46, descriptorIndex := 29, attributes := #[] }, { accessFlags := 18, nameIndex := 49, descriptorIndex := 29, attributes := #[] }, { accessFlags := 18, nameIndex := 52, descriptorIndex := 53, attributes := #[] }])
  fields := #[{ name := "UNLABELLED", type := (.object "com/example/fulla/fulla/model/Lattice"), accessFlags := 25, slot := 0, constantValue := 0 }, { name := "levels", type := (.object "java/util/List"), accessFlags := 18, slot := 0, constantValue := 0 }, { name := "categories", type := (.object "java/util/List"), accessFlags := 18, slot := 1, constantValue := 0 }, { name := "levelPlaces", type := (.object "java/util/Map"), accessFlags := 18, slot := 2, constantValue := 0 }, { name := "categoryPlaces", type := (.object "java/util/Map"), accessFlags := 18, slot := 3, constantValue := 0 }, { name := "translations", type := (.object "java/util/Map"), accessFlags := 18, slot := 4, constantValue := 0 }, { name := "translationNames", type := (.object "java/util/Map"), accessFlags := 18, slot := 5, constantValue := 0 }, { name := "translationDashes", type := .int, accessFlags := 18, slot := 6, constantValue := 0 }]
  methods := #[k8m0, k8m1]
  instanceTypes := #[(.object "java/util/List"), (.object "java/util/List"), (.object "java/util/Map"), (.object "java/util/Map"), (.object "java/util/Map"), (.object "java/util/Map"), .int]
  staticTypes := #[(.object "com/example/fulla/fulla/model/Lattice")]
  resolved := Array.replicate 298 none
  statics := none }

def pool9 : Array CpInfo := pool [(3, .class_ 4), (0, u "java/lang/String"), (1, .class_ 8), (1, u "java/lang/Object"), (0, u "<init>"), (0, u "()V"), (0, .methodref 12 13), (0, .class_ 14), (0, .nameAndType 15 16), (0, u "java/lang/StringUTF16"), (0, u "newBytesLength"), (0, u "(I)I"), (3, .integer 1073741823), (23, .fieldref 12 45), (0, .nameAndType 46 47), (0, u "$assertionsDisabled"), (0, u "Z"), (0, .methodref 12 49), (0, .nameAndType 50 51), (0, u "length"), (0, u "([B)I"), (7, .fieldref 12 60), (0, .nameAndType 61 62), (0, u "HI_BYTE_SHIFT"), (0, u "I"), (0, .fieldref 12 64), (0, .nameAndType 65 62), (0, u "LO_BYTE_SHIFT"), (1, .methodref 12 68), (0, .nameAndType 69 70), (0, u "checkIndex"), (0, u "(I[B)V"), (0, .methodref 12 72), (0, .nameAndType 73 74), (0, u "getChar"), (0, u "([BI)C"), (32, .methodref 12 108), (0, .nameAndType 109 110), (0, u "newBytesFor"), (0, u "(I)[B"), (0, .methodref 12 112), (0, .nameAndType 113 114), (0, u "putChar"), (0, u "([BII)V"), (0, .methodref 12 116), (0, .nameAndType 117 118), (0, u "compress"), (0, u "([CI[BII)I"), (0, .methodref 12 120), (0, .nameAndType 121 122), (0, u "toBytes"), (0, u "([CII)[B"), (138, u "coderFromArrayLen"), (0, u "([BI)B"), (106, .class_ 371), (1, u "java/lang/StringUTF16$LinesSpliterator"), (20, u "charAt"), (21, .methodref 3 415), (0, .nameAndType 69 416), (0, u "(II)V"), (13, u "MAX_LENGTH"), (196, .class_ 628), (0, u "java/lang/StringUTF16$CodePointsSpliterator"), (0, .class_ 630), (0, u "java/lang/StringUTF16$CharsSpliterator")] 4

def k9m0 : Method := { name := "<init>", desc := "()V", sig := { parameters := [], returnType := none }, accessFlags := 0, code := none }
def k9c1 : Code := { maxStack := 1, maxLocals := 1, code := jdk_52_method_2_code, exceptionTable := #[], attributes := #[] }
def k9m1 : Method := { name := "newBytesFor", desc := "(I)[B", sig := { parameters := [.int], returnType := some (.array .byte) }, accessFlags := 9, code := some k9c1 }
def k9c2 : Code := { maxStack := 4, maxLocals := 1, code := jdk_52_method_3_code, exceptionTable := #[], attributes := #[] }
def k9m2 : Method := { name := "newBytesLength", desc := "(I)I", sig := { parameters := [.int], returnType := some .int }, accessFlags := 9, code := some k9c2 }
def k9c3 : Code := { maxStack := 4, maxLocals := 3, code := jdk_52_method_4_code, exceptionTable := #[], attributes := #[] }
def k9m3 : Method := { name := "putChar", desc := "([BII)V", sig := { parameters := [(.array .byte), .int, .int], returnType := none }, accessFlags := 8, code := some k9c3 }
def k9c4 : Code := { maxStack := 3, maxLocals := 2, code := jdk_52_method_5_code, exceptionTable := #[], attributes := #[] }
def k9m4 : Method := { name := "getChar", desc := "([BI)C", sig := { parameters := [(.array .byte), .int], returnType := some .char }, accessFlags := 8, code := some k9c4 }
def k9c5 : Code := { maxStack := 2, maxLocals := 1, code := jdk_52_method_6_code, exceptionTable := #[], attributes := #[] }
def k9m5 : Method := { name := "length", desc := "([B)I", sig := { parameters := [(.array .byte)], returnType := some .int }, accessFlags := 9, code := some k9c5 }
def k9c6 : Code := { maxStack := 4, maxLocals := 5, code := jdk_52_method_14_code, exceptionTable := #[], attributes := #[] }
def k9m6 : Method := { name := "toBytes", desc := "([CII)[B", sig := { parameters := [(.array .char), .int, .int], returnType := some (.array .byte) }, accessFlags := 9, code := some k9c6 }
def k9c7 : Code := { maxStack := 2, maxLocals := 2, code := jdk_52_method_15_code, exceptionTable := #[], attributes := #[] }
def k9m7 : Method := { name := "coderFromArrayLen", desc := "([BI)B", sig := { parameters := [(.array .byte), .int], returnType := some .byte }, accessFlags := 8, code := some k9c7 }
def k9c8 : Code := { maxStack := 5, maxLocals := 6, code := jdk_52_method_16_code, exceptionTable := #[], attributes := #[] }
def k9m8 : Method := { name := "compress", desc := "([CII)[B", sig := { parameters := [(.array .char), .int, .int], returnType := some (.array .byte) }, accessFlags := 9, code := some k9c8 }
def k9c9 : Code := { maxStack := 3, maxLocals := 7, code := jdk_52_method_21_code, exceptionTable := #[], attributes := #[] }
def k9m9 : Method := { name := "compress", desc := "([CI[BII)I", sig := { parameters := [(.array .char), .int, (.array .byte), .int, .int], returnType := some .int }, accessFlags := 9, code := some k9c9 }
def k9c10 : Code := { maxStack := 2, maxLocals := 2, code := jdk_52_method_83_code, exceptionTable := #[], attributes := #[] }
def k9m10 : Method := { name := "charAt", desc := "([BI)C", sig := { parameters := [(.array .byte), .int], returnType := some .char }, accessFlags := 9, code := some k9c10 }
def k9c11 : Code := { maxStack := 2, maxLocals := 2, code := jdk_52_method_91_code, exceptionTable := #[], attributes := #[] }
def k9m11 : Method := { name := "checkIndex", desc := "(I[B)V", sig := { parameters := [.int, (.array .byte)], returnType := none }, accessFlags := 9, code := some k9c11 }
/-- java/lang/StringUTF16 -/
def k9 : Class := { plain "java/lang/StringUTF16" (some 0) with
  accessFlags := 48
  interfaces := #[]
  cf := some (fileOf pool9 12 #[.nestMembers #[627, 629, 369]] #[{ accessFlags := 0, nameIndex := 9, descriptorIndex := 10, attributes := #[] }, { accessFlags := 9, nameIndex := 109, descriptorIndex := 110, attributes := #[] }, { accessFlags := 9, nameIndex := 15, descriptorIndex := 16, attributes := #[] }, { accessFlags := 8, nameIndex := 113, descriptorIndex := 114, attributes := #[] }, { accessFlags := 8, nameIndex := 73, descriptorIndex := 74, attributes := #[] }, { accessFlags := 9, nameIndex := 50, descriptorIndex := 51, attributes := #[] }, { accessFlags := 9, nameIndex := 121, descriptorIndex := 122, attributes := #[] }, { accessFlags := 8, nameIndex := 261, descriptorIndex := 262, attributes := #[] }, { accessFlags := 9, nameIndex := 117, descriptorIndex := 122, attributes := #[] }, { accessFlags := 9, nameIndex := 117, descriptorIndex := 118, attributes := #[] }, { accessFlags := 9, nameIndex := 392, descriptorIndex := 74, attributes := #[] }, { accessFlags := 9, nameIndex := 69, descriptorIndex := 70, attributes := #[] }] 48 6 #[] #[{ accessFlags := 26, nameIndex := 61, descriptorIndex := 62, attributes := #[] }, { accessFlags := 26, nameIndex := 65, descriptorIndex := 62, attributes := #[] }, { accessFlags := 24, nameIndex := 430, descriptorIndex := 62, attributes := #[] }, { accessFlags := 4120, nameIndex := 46, descriptorIndex := 47, attributes := #[] }])
  fields := #[{ name := "HI_BYTE_SHIFT", type := .int, accessFlags := 26, slot := 0, constantValue := 0 }, { name := "LO_BYTE_SHIFT", type := .int, accessFlags := 26, slot := 1, constantValue := 0 }, { name := "MAX_LENGTH", type := .int, accessFlags := 24, slot := 2, constantValue := 0 }, { name := "$assertionsDisabled", type := .boolean, accessFlags := 4120, slot := 3, constantValue := 0 }]
  methods := #[k9m0, k9m1, k9m2, k9m3, k9m4, k9m5, k9m6, k9m7, k9m8, k9m9, k9m10, k9m11]
  instanceTypes := #[]
  staticTypes := #[.int, .int, .int, .boolean]
  resolved := Array.replicate 635 none
  statics := some 1 }

def pool10 : Array CpInfo := pool [(1, .class_ 2), (0, u "java/lang/String"), (1, .class_ 6), (1, u "java/lang/Object"), (0, u "<init>"), (0, u "()V"), (0, .methodref 1 10), (0, .nameAndType 11 12), (0, u "checkIndex"), (0, u "(II)V"), (1, .class_ 16), (1, u "java/lang/StringLatin1"), (36, u "([BI)C"), (67, u "$assertionsDisabled"), (0, u "Z"), (98, .class_ 223), (1, u "java/lang/StringLatin1$LinesSpliterator"), (28, u "charAt"), (137, .class_ 391), (0, u "java/lang/StringLatin1$CharsSpliterator")] 3

def k10m0 : Method := { name := "<init>", desc := "()V", sig := { parameters := [], returnType := none }, accessFlags := 0, code := none }
def k10c1 : Code := { maxStack := 2, maxLocals := 2, code := jdk_43_method_2_code, exceptionTable := #[], attributes := #[] }
def k10m1 : Method := { name := "charAt", desc := "([BI)C", sig := { parameters := [(.array .byte), .int], returnType := some .char }, accessFlags := 9, code := some k10c1 }
/-- java/lang/StringLatin1 -/
def k10 : Class := { plain "java/lang/StringLatin1" (some 0) with
  accessFlags := 48
  interfaces := #[]
  cf := some (fileOf pool10 14 #[.nestMembers #[390, 221]] #[{ accessFlags := 0, nameIndex := 7, descriptorIndex := 8, attributes := #[] }, { accessFlags := 9, nameIndex := 252, descriptorIndex := 53, attributes := #[] }] 48 4 #[] #[{ accessFlags := 4120, nameIndex := 121, descriptorIndex := 122, attributes := #[] }])
  fields := #[{ name := "$assertionsDisabled", type := .boolean, accessFlags := 4120, slot := 0, constantValue := 0 }]
  methods := #[k10m0, k10m1]
  instanceTypes := #[]
  staticTypes := #[.boolean]
  resolved := Array.replicate 395 none
  statics := none }

def pool11 : Array CpInfo := pool [(2, .class_ 4), (1, u "java/lang/Object"), (0, u "<init>"), (0, u "()V"), (17, .class_ 26), (1, u "jdk/internal/util/Preconditions"), (6, u "checkIndex"), (21, .class_ 56), (0, u "jdk/internal/util/Preconditions$4"), (57, .class_ 115), (0, u "jdk/internal/util/Preconditions$1"), (7, u "SIOOBE_FORMATTER"), (0, u "Ljava/util/function/BiFunction;"), (0, .class_ 126), (0, u "jdk/internal/util/Preconditions$2"), (3, u "AIOOBE_FORMATTER"), (0, .class_ 132), (0, u "jdk/internal/util/Preconditions$3"), (3, u "IOOBE_FORMATTER"), (41, u "(IILjava/util/function/BiFunction;)I")] 15

def k11m0 : Method := { name := "<init>", desc := "()V", sig := { parameters := [], returnType := none }, accessFlags := 1, code := none }
def k11c1 : Code := { maxStack := 3, maxLocals := 3, code := jdk_41_method_11_code, exceptionTable := #[], attributes := #[] }
def k11m1 : Method := { name := "checkIndex", desc := "(IILjava/util/function/BiFunction;)I", sig := { parameters := [.int, .int, (.object "java/util/function/BiFunction")], returnType := some .int }, accessFlags := 9, code := some k11c1 }
/-- jdk/internal/util/Preconditions -/
def k11 : Class := { plain "jdk/internal/util/Preconditions" (some 0) with
  accessFlags := 33
  interfaces := #[]
  cf := some (fileOf pool11 24 #[.nestMembers #[55, 131, 125, 114]] #[{ accessFlags := 1, nameIndex := 5, descriptorIndex := 6, attributes := #[] }, { accessFlags := 9, nameIndex := 33, descriptorIndex := 178, attributes := #[] }] 33 2 #[] #[{ accessFlags := 25, nameIndex := 123, descriptorIndex := 124, attributes := #[] }, { accessFlags := 25, nameIndex := 130, descriptorIndex := 124, attributes := #[] }, { accessFlags := 25, nameIndex := 136, descriptorIndex := 124, attributes := #[] }])
  fields := #[{ name := "SIOOBE_FORMATTER", type := (.object "java/util/function/BiFunction"), accessFlags := 25, slot := 0, constantValue := 0 }, { name := "AIOOBE_FORMATTER", type := (.object "java/util/function/BiFunction"), accessFlags := 25, slot := 1, constantValue := 0 }, { name := "IOOBE_FORMATTER", type := (.object "java/util/function/BiFunction"), accessFlags := 25, slot := 2, constantValue := 0 }]
  methods := #[k11m0, k11m1]
  instanceTypes := #[]
  staticTypes := #[(.object "java/util/function/BiFunction"), (.object "java/util/function/BiFunction"), (.object "java/util/function/BiFunction")]
  resolved := Array.replicate 194 none
  statics := some 2 }

def pool12 : Array CpInfo := pool [(9, u "<init>"), (6, .class_ 18), (1, u "java/lang/Object"), (0, u "()V"), (1, .class_ 23), (1, u "jdk/internal/util/ArraysSupport"), (0, u "LOG2_ARRAY_LONG_INDEX_SCALE"), (0, u "I"), (2, u "U"), (0, u "Ljdk/internal/misc/Unsafe;"), (8, u "BIG_ENDIAN"), (0, u "Z"), (8, u "LOG2_BYTE_BIT_SIZE"), (4, u "LOG2_ARRAY_INT_INDEX_SCALE"), (54, u "JLA"), (0, u "Ljdk/internal/access/JavaLangAccess;"), (11, u "LOG2_ARRAY_BOOLEAN_INDEX_SCALE"), (9, u "LOG2_ARRAY_BYTE_INDEX_SCALE"), (5, u "LOG2_ARRAY_CHAR_INDEX_SCALE"), (5, u "LOG2_ARRAY_SHORT_INDEX_SCALE"), (18, u "LOG2_ARRAY_FLOAT_INDEX_SCALE"), (24, u "LOG2_ARRAY_DOUBLE_INDEX_SCALE"), (89, u "T_BOOLEAN"), (2, u "T_CHAR"), (1, u "T_FLOAT"), (1, u "T_DOUBLE"), (1, u "T_BYTE"), (1, u "T_SHORT"), (1, u "T_INT"), (1, u "T_LONG"), (1, u "SOFT_MAX_ARRAY_LENGTH")] 83

def k12m0 : Method := { name := "<init>", desc := "()V", sig := { parameters := [], returnType := none }, accessFlags := 2, code := none }
/-- jdk/internal/util/ArraysSupport -/
def k12 : Class := { plain "jdk/internal/util/ArraysSupport" (some 0) with
  accessFlags := 33
  interfaces := #[]
  cf := some (fileOf pool12 21 #[] #[{ accessFlags := 2, nameIndex := 9, descriptorIndex := 19, attributes := #[] }] 33 16 #[] #[{ accessFlags := 24, nameIndex := 28, descriptorIndex := 29, attributes := #[] }, { accessFlags := 26, nameIndex := 38, descriptorIndex := 39, attributes := #[] }, { accessFlags := 25, nameIndex := 121, descriptorIndex := 25, attributes := #[] }, { accessFlags := 25, nameIndex := 131, descriptorIndex := 25, attributes := #[] }, { accessFlags := 25, nameIndex := 137, descriptorIndex := 25, attributes := #[] }, { accessFlags := 25, nameIndex := 143, descriptorIndex := 25, attributes := #[] }, { accessFlags := 25, nameIndex := 53, descriptorIndex := 25, attributes := #[] }, { accessFlags := 25, nameIndex := 24, descriptorIndex := 25, attributes := #[] }, { accessFlags := 25, nameIndex := 162, descriptorIndex := 25, attributes := #[] }, { accessFlags := 25, nameIndex := 187, descriptorIndex := 25, attributes := #[] }, { accessFlags := 26, nameIndex := 48, descriptorIndex := 25, attributes := #[] }, { accessFlags := 25, nameIndex := 277, descriptorIndex := 25, attributes := #[] }, { accessFlags := 25, nameIndex := 280, descriptorIndex := 25, attributes := #[] }, { accessFlags := 25, nameIndex := 282, descriptorIndex := 25, attributes := #[] }, { accessFlags := 25, nameIndex := 284, descriptorIndex := 25, attributes := #[] }, { accessFlags := 25, nameIndex := 286, descriptorIndex := 25, attributes := #[] }, { accessFlags := 25, nameIndex := 288, descriptorIndex := 25, attributes := #[] }, { accessFlags := 25, nameIndex := 290, descriptorIndex := 25, attributes := #[] }, { accessFlags := 25, nameIndex := 292, descriptorIndex := 25, attributes := #[] }, { accessFlags := 26, nameIndex := 108, descriptorIndex := 109, attributes := #[] }, { accessFlags := 25, nameIndex := 294, descriptorIndex := 25, attributes := #[] }])
  fields := #[{ name := "U", type := (.object "jdk/internal/misc/Unsafe"), accessFlags := 24, slot := 0, constantValue := 0 }, { name := "BIG_ENDIAN", type := .boolean, accessFlags := 26, slot := 1, constantValue := 0 }, { name := "LOG2_ARRAY_BOOLEAN_INDEX_SCALE", type := .int, accessFlags := 25, slot := 2, constantValue := 0 }, { name := "LOG2_ARRAY_BYTE_INDEX_SCALE", type := .int, accessFlags := 25, slot := 3, constantValue := 0 }, { name := "LOG2_ARRAY_CHAR_INDEX_SCALE", type := .int, accessFlags := 25, slot := 4, constantValue := 0 }, { name := "LOG2_ARRAY_SHORT_INDEX_SCALE", type := .int, accessFlags := 25, slot := 5, constantValue := 0 }, { name := "LOG2_ARRAY_INT_INDEX_SCALE", type := .int, accessFlags := 25, slot := 6, constantValue := 0 }, { name := "LOG2_ARRAY_LONG_INDEX_SCALE", type := .int, accessFlags := 25, slot := 7, constantValue := 0 }, { name := "LOG2_ARRAY_FLOAT_INDEX_SCALE", type := .int, accessFlags := 25, slot := 8, constantValue := 0 }, { name := "LOG2_ARRAY_DOUBLE_INDEX_SCALE", type := .int, accessFlags := 25, slot := 9, constantValue := 0 }, { name := "LOG2_BYTE_BIT_SIZE", type := .int, accessFlags := 26, slot := 10, constantValue := 0 }, { name := "T_BOOLEAN", type := .int, accessFlags := 25, slot := 11, constantValue := 0 }, { name := "T_CHAR", type := .int, accessFlags := 25, slot := 12, constantValue := 0 }, { name := "T_FLOAT", type := .int, accessFlags := 25, slot := 13, constantValue := 0 }, { name := "T_DOUBLE", type := .int, accessFlags := 25, slot := 14, constantValue := 0 }, { name := "T_BYTE", type := .int, accessFlags := 25, slot := 15, constantValue := 0 }, { name := "T_SHORT", type := .int, accessFlags := 25, slot := 16, constantValue := 0 }, { name := "T_INT", type := .int, accessFlags := 25, slot := 17, constantValue := 0 }, { name := "T_LONG", type := .int, accessFlags := 25, slot := 18, constantValue := 0 }, { name := "JLA", type := (.object "jdk/internal/access/JavaLangAccess"), accessFlags := 26, slot := 19, constantValue := 0 }, { name := "SOFT_MAX_ARRAY_LENGTH", type := .int, accessFlags := 25, slot := 20, constantValue := 0 }]
  methods := #[k12m0]
  instanceTypes := #[]
  staticTypes := #[(.object "jdk/internal/misc/Unsafe"), .boolean, .int, .int, .int, .int, .int, .int, .int, .int, .int, .int, .int, .int, .int, .int, .int, .int, .int, (.object "jdk/internal/access/JavaLangAccess"), .int]
  resolved := Array.replicate 378 none
  statics := none }

def pool13 : Array CpInfo := pool [(1, u "java/lang/Cloneable"), (0, .class_ 1), (0, u "java/lang/Object"), (0, .class_ 3)] 3

/-- java/lang/Cloneable -/
def k13 : Class := { plain "java/lang/Cloneable" (some 0) with
  accessFlags := 1537
  interfaces := #[]
  cf := some (fileOf pool13 2 #[] #[] 1537 4 #[] #[])
  fields := #[]
  methods := #[]
  instanceTypes := #[]
  staticTypes := #[]
  resolved := Array.replicate 8 none
  statics := none }

/-- the primitive byte -/
def k14 : Class := { plain "byte" none with kind := .primitive 'B', accessFlags := 0x411 }
/-- [B -/
def k15 : Class := { plain "[B" (some 0) with kind := .array 14 .byte, interfaces := #[13, 2], accessFlags := 1041 }

/-- the primitive char -/
def k16 : Class := { plain "char" none with kind := .primitive 'C', accessFlags := 0x411 }
/-- [C -/
def k17 : Class := { plain "[C" (some 0) with kind := .array 16 .char, interfaces := #[13, 2], accessFlags := 1041 }

/-- the primitive int -/
def k18 : Class := { plain "int" none with kind := .primitive 'I', accessFlags := 0x411 }
/-- [I -/
def k19 : Class := { plain "[I" (some 0) with kind := .array 18 .int, interfaces := #[13, 2], accessFlags := 1041 }

def heap : Heap := #[{ cls := 7, slots := #[.long 0, .int 1, .null, .int 0, .null, .int 0, .int 0], vm := .statics 7 },
  { cls := 9, slots := #[.int 0, .int 8, .int 0, .int 1], vm := .statics 9 },
  { cls := 11, slots := #[.null, .null, .null], vm := .statics 11 }]
def classes : Array Class := #[k0, k1, k2, k3, k4, k5, k6, k7, k8, k9, k10, k11, k12, k13, k14, k15, k16, k17, k18, k19]
def interned : List (Array UInt16 × Addr) := []
def slotsUsed : Nat := 14
def theMethod : MethodId := ⟨1, 4⟩
def args0 : Array Value := #[.int 5, .int 65, .int 66, .int 67, .int 68, .int 69]
def aboutOver (below : List Frame) : State where
  vm := { classes := classes, interned := interned.toArray }
  heap := heap
  slotsUsed := slotsUsed
  threads := #[{ frames := .invoking theMethod args0 :: below }]
def below0 : List Frame := [.native { method := ⟨0, 0⟩, args := #[] }]
def about1 : State := aboutOver below0
def p0 : Program := .bare "" "" ""
def e0 : Env := launch0.env 0 0 0
theorem w_frames : about1.frames = Frame.invoking theMethod args0 :: below0 := rfl
set_option maxRecDepth 65536 in
theorem w_args : argsFit about1.vm theMethod args0 = true := by decide +kernel
set_option maxRecDepth 65536 in
theorem w_heap : heapFits about1 = true := by decide +kernel
set_option maxRecDepth 65536 in
theorem w_runnable : about1.curStatus? = some .runnable := by decide +kernel
set_option maxRecDepth 65536 in
theorem w_alone : about1.alone = true := by decide +kernel
set_option maxRecDepth 65536 in
theorem w_named : about1.methodNamed? x = some theMethod := by decide +kernel
set_option maxRecDepth 65536 in
theorem w_hears : about1.hears theMethod below0 = true := by decide +kernel
set_option maxRecDepth 65536 in
theorem w_ripe : about1.ripe theMethod args0 below0 = true := by decide +kernel
theorem w_running : about1.status = .running := rfl
set_option maxRecDepth 65536 in
theorem w_room : about1.hasRoom e0.platform room_1 = true :=
  launch0.hasRoom_least _ room_1 (by decide +kernel) (by decide +kernel) (by decide +kernel) (by decide +kernel) (by decide +kernel) (by decide +kernel)
theorem allAtoms_all (ts : List Jvm.Cond) (a : Array Jvm.Value) (st : Jvm.State) : (allAtoms ts).before a st = ts.all (fun c => c.before a st) := by
  induction ts with
  | nil => rfl
  | cons c t ih =>
    show (Jvm.Cond.and c (allAtoms t)).before a st = _
    rw [Jvm.Cond.before_and, ih, List.all_cons]
def words1 : List Jvm.Cond := Jvm.Cond.code x code maxLocals ret :: tables_1
/-- a 'code' word, met by the world's own term for the bytes: nothing is compared byte by byte -/
theorem code_word {y : MethodName} {bytes : ByteArray} {mx : Nat} {rt : Option FieldType} {a : Array Value} {s : State} {m : MethodId} {meth : Method} {c : Code} (h1 : s.methodNamed? y = some m) (h2 : s.vm.method? m = some meth) (h3 : meth.code = some c) (h4 : c.code = bytes)
    (h5 : (c.maxLocals == mx && c.exceptionTable.isEmpty && decide (c.maxStack ≤ mostOperands) && decide (meth.sig.returnType = rt) && !meth.locks && decide (parseMethodDescriptor y.desc = some meth.sig)) = true) : (Jvm.Cond.code y bytes mx rt).before a s = true := by
  simp only [Bool.and_eq_true, beq_iff_eq, Bool.not_eq_true', decide_eq_true_eq] at h5
  obtain ⟨⟨⟨⟨⟨g1, g2⟩, g3⟩, g4⟩, g5⟩, g6⟩ := h5
  simp [Cond.before, Cond.holds, Cond.value, h1, h2, h3, h4, g1, g2, g3, g4, g5, g6]
def isCode : Jvm.Cond → Bool
  | .code _ _ _ _ => true
  | _ => false
theorem all_split {L : List Jvm.Cond} {P : Jvm.Cond → Bool} (h1 : L.all (fun c => isCode c || P c) = true) (h2 : ∀ c ∈ L.filter isCode, P c = true) : L.all P = true := by
  refine List.all_eq_true.mpr fun c hc => ?_
  have h := List.all_eq_true.mp h1 c hc
  rcases Bool.eq_false_or_eq_true (isCode c) with hi | hi
  · exact h2 c (List.mem_filter.mpr ⟨hc, hi⟩)
  · simpa [hi] using h
set_option maxRecDepth 65536 in
theorem w_c0 : (Jvm.Cond.code x code maxLocals ret).before args0 about1 = true := code_word (m := ⟨1, 4⟩) (meth := k1m4) (c := k1c4) (by decide +kernel) rfl rfl rfl (by decide +kernel)
set_option maxRecDepth 65536 in
theorem w_c1 : (Jvm.Cond.code ({ cls := "com/example/fulla/fulla/model/LatticeIsNamePinLaw", name := "make", desc := "(ICCCCC)[C" } : Jvm.MethodName) method_4_code (6 : Nat) (Option.some (Jvm.ClassFile.FieldType.array Jvm.ClassFile.FieldType.char))).before args0 about1 = true := code_word (m := ⟨1, 3⟩) (meth := k1m3) (c := k1c3) (by decide +kernel) rfl rfl rfl (by decide +kernel)
set_option maxRecDepth 65536 in
theorem w_c2 : (Jvm.Cond.code ({ cls := "java/lang/String", name := "<init>", desc := "([C)V" } : Jvm.MethodName) jdk_42_method_3_code (2 : Nat) (Option.none : Option Jvm.ClassFile.FieldType)).before args0 about1 = true := code_word (m := ⟨7, 1⟩) (meth := k7m1) (c := k7c1) (by decide +kernel) rfl rfl rfl (by decide +kernel)
set_option maxRecDepth 65536 in
theorem w_c3 : (Jvm.Cond.code ({ cls := "java/lang/String", name := "<init>", desc := "([CIILjava/lang/Void;)V" } : Jvm.MethodName) jdk_42_method_149_code (6 : Nat) (Option.none : Option Jvm.ClassFile.FieldType)).before args0 about1 = true := code_word (m := ⟨7, 5⟩) (meth := k7m5) (c := k7c5) (by decide +kernel) rfl rfl rfl (by decide +kernel)
set_option maxRecDepth 65536 in
theorem w_c4 : (Jvm.Cond.code ({ cls := "java/lang/Object", name := "<init>", desc := "()V" } : Jvm.MethodName) object_method_1_code (1 : Nat) (Option.none : Option Jvm.ClassFile.FieldType)).before args0 about1 = true := code_word (m := ⟨0, 0⟩) (meth := k0m0) (c := k0c0) (by decide +kernel) rfl rfl rfl (by decide +kernel)
set_option maxRecDepth 65536 in
theorem w_c5 : (Jvm.Cond.code ({ cls := "com/example/fulla/fulla/model/Lattice", name := "isName", desc := "(Ljava/lang/String;)Z" } : Jvm.MethodName) prog_60_method_3_code (3 : Nat) (Option.some Jvm.ClassFile.FieldType.boolean)).before args0 about1 = true := code_word (m := ⟨8, 0⟩) (meth := k8m0) (c := k8c0) (by decide +kernel) rfl rfl rfl (by decide +kernel)
set_option maxRecDepth 65536 in
theorem w_c6 : (Jvm.Cond.code ({ cls := "java/lang/String", name := "isEmpty", desc := "()Z" } : Jvm.MethodName) jdk_42_method_55_code (1 : Nat) (Option.some Jvm.ClassFile.FieldType.boolean)).before args0 about1 = true := code_word (m := ⟨7, 3⟩) (meth := k7m3) (c := k7c3) (by decide +kernel) rfl rfl rfl (by decide +kernel)
set_option maxRecDepth 65536 in
theorem w_c7 : (Jvm.Cond.code ({ cls := "java/lang/StringUTF16", name := "compress", desc := "([CII)[B" } : Jvm.MethodName) jdk_52_method_16_code (6 : Nat) (Option.some (Jvm.ClassFile.FieldType.array Jvm.ClassFile.FieldType.byte))).before args0 about1 = true := code_word (m := ⟨9, 8⟩) (meth := k9m8) (c := k9c8) (by decide +kernel) rfl rfl rfl (by decide +kernel)
set_option maxRecDepth 65536 in
theorem w_c8 : (Jvm.Cond.code ({ cls := "java/lang/StringUTF16", name := "compress", desc := "([CI[BII)I" } : Jvm.MethodName) jdk_52_method_21_code (7 : Nat) (Option.some Jvm.ClassFile.FieldType.int)).before args0 about1 = true := code_word (m := ⟨9, 9⟩) (meth := k9m9) (c := k9c9) (by decide +kernel) rfl rfl rfl (by decide +kernel)
set_option maxRecDepth 65536 in
theorem w_c9 : (Jvm.Cond.code ({ cls := "java/lang/StringUTF16", name := "coderFromArrayLen", desc := "([BI)B" } : Jvm.MethodName) jdk_52_method_15_code (2 : Nat) (Option.some Jvm.ClassFile.FieldType.byte)).before args0 about1 = true := code_word (m := ⟨9, 7⟩) (meth := k9m7) (c := k9c7) (by decide +kernel) rfl rfl rfl (by decide +kernel)
set_option maxRecDepth 65536 in
theorem w_c10 : (Jvm.Cond.code ({ cls := "com/example/fulla/fulla/model/LatticeIsNamePinLaw", name := "letter", desc := "(C)Z" } : Jvm.MethodName) method_2_code (1 : Nat) (Option.some Jvm.ClassFile.FieldType.boolean)).before args0 about1 = true := code_word (m := ⟨1, 1⟩) (meth := k1m1) (c := k1c1) (by decide +kernel) rfl rfl rfl (by decide +kernel)
set_option maxRecDepth 65536 in
theorem w_c11 : (Jvm.Cond.code ({ cls := "java/lang/String", name := "charAt", desc := "(I)C" } : Jvm.MethodName) jdk_42_method_56_code (2 : Nat) (Option.some Jvm.ClassFile.FieldType.char)).before args0 about1 = true := code_word (m := ⟨7, 4⟩) (meth := k7m4) (c := k7c4) (by decide +kernel) rfl rfl rfl (by decide +kernel)
set_option maxRecDepth 65536 in
theorem w_c12 : (Jvm.Cond.code ({ cls := "java/lang/String", name := "isLatin1", desc := "()Z" } : Jvm.MethodName) jdk_42_method_154_code (1 : Nat) (Option.some Jvm.ClassFile.FieldType.boolean)).before args0 about1 = true := code_word (m := ⟨7, 7⟩) (meth := k7m7) (c := k7c7) (by decide +kernel) rfl rfl rfl (by decide +kernel)
set_option maxRecDepth 65536 in
theorem w_c13 : (Jvm.Cond.code ({ cls := "java/lang/StringLatin1", name := "charAt", desc := "([BI)C" } : Jvm.MethodName) jdk_43_method_2_code (2 : Nat) (Option.some Jvm.ClassFile.FieldType.char)).before args0 about1 = true := code_word (m := ⟨10, 1⟩) (meth := k10m1) (c := k10c1) (by decide +kernel) rfl rfl rfl (by decide +kernel)
set_option maxRecDepth 65536 in
theorem w_c14 : (Jvm.Cond.code ({ cls := "java/lang/String", name := "checkIndex", desc := "(II)V" } : Jvm.MethodName) jdk_42_method_155_code (2 : Nat) (Option.none : Option Jvm.ClassFile.FieldType)).before args0 about1 = true := code_word (m := ⟨7, 8⟩) (meth := k7m8) (c := k7c8) (by decide +kernel) rfl rfl rfl (by decide +kernel)
set_option maxRecDepth 65536 in
theorem w_c15 : (Jvm.Cond.code ({ cls := "jdk/internal/util/Preconditions", name := "checkIndex", desc := "(IILjava/util/function/BiFunction;)I" } : Jvm.MethodName) jdk_41_method_11_code (3 : Nat) (Option.some Jvm.ClassFile.FieldType.int)).before args0 about1 = true := code_word (m := ⟨11, 1⟩) (meth := k11m1) (c := k11c1) (by decide +kernel) rfl rfl rfl (by decide +kernel)
set_option maxRecDepth 65536 in
theorem w_c16 : (Jvm.Cond.code ({ cls := "com/example/fulla/fulla/model/Lattice", name := "isAsciiLetter", desc := "(C)Z" } : Jvm.MethodName) prog_60_method_5_code (1 : Nat) (Option.some Jvm.ClassFile.FieldType.boolean)).before args0 about1 = true := code_word (m := ⟨8, 1⟩) (meth := k8m1) (c := k8c1) (by decide +kernel) rfl rfl rfl (by decide +kernel)
set_option maxRecDepth 65536 in
theorem w_c17 : (Jvm.Cond.code ({ cls := "java/lang/StringUTF16", name := "toBytes", desc := "([CII)[B" } : Jvm.MethodName) jdk_52_method_14_code (5 : Nat) (Option.some (Jvm.ClassFile.FieldType.array Jvm.ClassFile.FieldType.byte))).before args0 about1 = true := code_word (m := ⟨9, 6⟩) (meth := k9m6) (c := k9c6) (by decide +kernel) rfl rfl rfl (by decide +kernel)
set_option maxRecDepth 65536 in
theorem w_c18 : (Jvm.Cond.code ({ cls := "java/lang/StringUTF16", name := "newBytesFor", desc := "(I)[B" } : Jvm.MethodName) jdk_52_method_2_code (1 : Nat) (Option.some (Jvm.ClassFile.FieldType.array Jvm.ClassFile.FieldType.byte))).before args0 about1 = true := code_word (m := ⟨9, 1⟩) (meth := k9m1) (c := k9c1) (by decide +kernel) rfl rfl rfl (by decide +kernel)
set_option maxRecDepth 65536 in
theorem w_c19 : (Jvm.Cond.code ({ cls := "java/lang/StringUTF16", name := "newBytesLength", desc := "(I)I" } : Jvm.MethodName) jdk_52_method_3_code (1 : Nat) (Option.some Jvm.ClassFile.FieldType.int)).before args0 about1 = true := code_word (m := ⟨9, 2⟩) (meth := k9m2) (c := k9c2) (by decide +kernel) rfl rfl rfl (by decide +kernel)
set_option maxRecDepth 65536 in
theorem w_c20 : (Jvm.Cond.code ({ cls := "java/lang/StringUTF16", name := "putChar", desc := "([BII)V" } : Jvm.MethodName) jdk_52_method_4_code (3 : Nat) (Option.none : Option Jvm.ClassFile.FieldType)).before args0 about1 = true := code_word (m := ⟨9, 3⟩) (meth := k9m3) (c := k9c3) (by decide +kernel) rfl rfl rfl (by decide +kernel)
set_option maxRecDepth 65536 in
theorem w_c21 : (Jvm.Cond.code ({ cls := "java/lang/StringUTF16", name := "getChar", desc := "([BI)C" } : Jvm.MethodName) jdk_52_method_5_code (2 : Nat) (Option.some Jvm.ClassFile.FieldType.char)).before args0 about1 = true := code_word (m := ⟨9, 4⟩) (meth := k9m4) (c := k9c4) (by decide +kernel) rfl rfl rfl (by decide +kernel)
set_option maxRecDepth 65536 in
theorem w_c22 : (Jvm.Cond.code ({ cls := "java/lang/StringUTF16", name := "charAt", desc := "([BI)C" } : Jvm.MethodName) jdk_52_method_83_code (2 : Nat) (Option.some Jvm.ClassFile.FieldType.char)).before args0 about1 = true := code_word (m := ⟨9, 10⟩) (meth := k9m10) (c := k9c10) (by decide +kernel) rfl rfl rfl (by decide +kernel)
set_option maxRecDepth 65536 in
theorem w_c23 : (Jvm.Cond.code ({ cls := "java/lang/StringUTF16", name := "checkIndex", desc := "(I[B)V" } : Jvm.MethodName) jdk_52_method_91_code (2 : Nat) (Option.none : Option Jvm.ClassFile.FieldType)).before args0 about1 = true := code_word (m := ⟨9, 11⟩) (meth := k9m11) (c := k9c11) (by decide +kernel) rfl rfl rfl (by decide +kernel)
set_option maxRecDepth 65536 in
theorem w_c24 : (Jvm.Cond.code ({ cls := "java/lang/StringUTF16", name := "length", desc := "([B)I" } : Jvm.MethodName) jdk_52_method_6_code (1 : Nat) (Option.some Jvm.ClassFile.FieldType.int)).before args0 about1 = true := code_word (m := ⟨9, 5⟩) (meth := k9m5) (c := k9c5) (by decide +kernel) rfl rfl rfl (by decide +kernel)
set_option maxRecDepth 65536 in
theorem w_c25 : (Jvm.Cond.code ({ cls := "java/lang/String", name := "length", desc := "()I" } : Jvm.MethodName) jdk_42_method_54_code (1 : Nat) (Option.some Jvm.ClassFile.FieldType.int)).before args0 about1 = true := code_word (m := ⟨7, 2⟩) (meth := k7m2) (c := k7c2) (by decide +kernel) rfl rfl rfl (by decide +kernel)
set_option maxRecDepth 65536 in
theorem w_c26 : (Jvm.Cond.code ({ cls := "java/lang/String", name := "coder", desc := "()B" } : Jvm.MethodName) jdk_42_method_152_code (1 : Nat) (Option.some Jvm.ClassFile.FieldType.byte)).before args0 about1 = true := code_word (m := ⟨7, 6⟩) (meth := k7m6) (c := k7c6) (by decide +kernel) rfl rfl rfl (by decide +kernel)
set_option maxRecDepth 65536 in
theorem w_c27 : (Jvm.Cond.code ({ cls := "com/example/fulla/fulla/model/LatticeIsNamePinLaw", name := "later", desc := "(C)Z" } : Jvm.MethodName) method_3_code (1 : Nat) (Option.some Jvm.ClassFile.FieldType.boolean)).before args0 about1 = true := code_word (m := ⟨1, 2⟩) (meth := k1m2) (c := k1c2) (by decide +kernel) rfl rfl rfl (by decide +kernel)
def codes1 : List Jvm.Cond := [Jvm.Cond.code x code maxLocals ret, Jvm.Cond.code ({ cls := "com/example/fulla/fulla/model/LatticeIsNamePinLaw", name := "make", desc := "(ICCCCC)[C" } : Jvm.MethodName) method_4_code (6 : Nat) (Option.some (Jvm.ClassFile.FieldType.array Jvm.ClassFile.FieldType.char)), Jvm.Cond.code ({ cls := "java/lang/String", name := "<init>", desc := "([C)V" } : Jvm.MethodName) jdk_42_method_3_code (2 : Nat) (Option.none : Option Jvm.ClassFile.FieldType), Jvm.Cond.code ({ cls := "java/lang/String", name := "<init>", desc := "([CIILjava/lang/Void;)V" } : Jvm.MethodName) jdk_42_method_149_code (6 : Nat) (Option.none : Option Jvm.ClassFile.FieldType), Jvm.Cond.code ({ cls := "java/lang/Object", name := "<init>", desc := "()V" } : Jvm.MethodName) object_method_1_code (1 : Nat) (Option.none : Option Jvm.ClassFile.FieldType), Jvm.Cond.code ({ cls := "com/example/fulla/fulla/model/Lattice", name := "isName", desc := "(Ljava/lang/String;)Z" } : Jvm.MethodName) prog_60_method_3_code (3 : Nat) (Option.some Jvm.ClassFile.FieldType.boolean), Jvm.Cond.code ({ cls := "java/lang/String", name := "isEmpty", desc := "()Z" } : Jvm.MethodName) jdk_42_method_55_code (1 : Nat) (Option.some Jvm.ClassFile.FieldType.boolean), Jvm.Cond.code ({ cls := "java/lang/StringUTF16", name := "compress", desc := "([CII)[B" } : Jvm.MethodName) jdk_52_method_16_code (6 : Nat) (Option.some (Jvm.ClassFile.FieldType.array Jvm.ClassFile.FieldType.byte)), Jvm.Cond.code ({ cls := "java/lang/StringUTF16", name := "compress", desc := "([CI[BII)I" } : Jvm.MethodName) jdk_52_method_21_code (7 : Nat) (Option.some Jvm.ClassFile.FieldType.int), Jvm.Cond.code ({ cls := "java/lang/StringUTF16", name := "coderFromArrayLen", desc := "([BI)B" } : Jvm.MethodName) jdk_52_method_15_code (2 : Nat) (Option.some Jvm.ClassFile.FieldType.byte), Jvm.Cond.code ({ cls := "com/example/fulla/fulla/model/LatticeIsNamePinLaw", name := "letter", desc := "(C)Z" } : Jvm.MethodName) method_2_code (1 : Nat) (Option.some Jvm.ClassFile.FieldType.boolean), Jvm.Cond.code ({ cls := "java/lang/String", name := "charAt", desc := "(I)C" } : Jvm.MethodName) jdk_42_method_56_code (2 : Nat) (Option.some Jvm.ClassFile.FieldType.char), Jvm.Cond.code ({ cls := "java/lang/String", name := "isLatin1", desc := "()Z" } : Jvm.MethodName) jdk_42_method_154_code (1 : Nat) (Option.some Jvm.ClassFile.FieldType.boolean), Jvm.Cond.code ({ cls := "java/lang/StringLatin1", name := "charAt", desc := "([BI)C" } : Jvm.MethodName) jdk_43_method_2_code (2 : Nat) (Option.some Jvm.ClassFile.FieldType.char), Jvm.Cond.code ({ cls := "java/lang/String", name := "checkIndex", desc := "(II)V" } : Jvm.MethodName) jdk_42_method_155_code (2 : Nat) (Option.none : Option Jvm.ClassFile.FieldType), Jvm.Cond.code ({ cls := "jdk/internal/util/Preconditions", name := "checkIndex", desc := "(IILjava/util/function/BiFunction;)I" } : Jvm.MethodName) jdk_41_method_11_code (3 : Nat) (Option.some Jvm.ClassFile.FieldType.int), Jvm.Cond.code ({ cls := "com/example/fulla/fulla/model/Lattice", name := "isAsciiLetter", desc := "(C)Z" } : Jvm.MethodName) prog_60_method_5_code (1 : Nat) (Option.some Jvm.ClassFile.FieldType.boolean), Jvm.Cond.code ({ cls := "java/lang/StringUTF16", name := "toBytes", desc := "([CII)[B" } : Jvm.MethodName) jdk_52_method_14_code (5 : Nat) (Option.some (Jvm.ClassFile.FieldType.array Jvm.ClassFile.FieldType.byte)), Jvm.Cond.code ({ cls := "java/lang/StringUTF16", name := "newBytesFor", desc := "(I)[B" } : Jvm.MethodName) jdk_52_method_2_code (1 : Nat) (Option.some (Jvm.ClassFile.FieldType.array Jvm.ClassFile.FieldType.byte)), Jvm.Cond.code ({ cls := "java/lang/StringUTF16", name := "newBytesLength", desc := "(I)I" } : Jvm.MethodName) jdk_52_method_3_code (1 : Nat) (Option.some Jvm.ClassFile.FieldType.int), Jvm.Cond.code ({ cls := "java/lang/StringUTF16", name := "putChar", desc := "([BII)V" } : Jvm.MethodName) jdk_52_method_4_code (3 : Nat) (Option.none : Option Jvm.ClassFile.FieldType), Jvm.Cond.code ({ cls := "java/lang/StringUTF16", name := "getChar", desc := "([BI)C" } : Jvm.MethodName) jdk_52_method_5_code (2 : Nat) (Option.some Jvm.ClassFile.FieldType.char), Jvm.Cond.code ({ cls := "java/lang/StringUTF16", name := "charAt", desc := "([BI)C" } : Jvm.MethodName) jdk_52_method_83_code (2 : Nat) (Option.some Jvm.ClassFile.FieldType.char), Jvm.Cond.code ({ cls := "java/lang/StringUTF16", name := "checkIndex", desc := "(I[B)V" } : Jvm.MethodName) jdk_52_method_91_code (2 : Nat) (Option.none : Option Jvm.ClassFile.FieldType), Jvm.Cond.code ({ cls := "java/lang/StringUTF16", name := "length", desc := "([B)I" } : Jvm.MethodName) jdk_52_method_6_code (1 : Nat) (Option.some Jvm.ClassFile.FieldType.int), Jvm.Cond.code ({ cls := "java/lang/String", name := "length", desc := "()I" } : Jvm.MethodName) jdk_42_method_54_code (1 : Nat) (Option.some Jvm.ClassFile.FieldType.int), Jvm.Cond.code ({ cls := "java/lang/String", name := "coder", desc := "()B" } : Jvm.MethodName) jdk_42_method_152_code (1 : Nat) (Option.some Jvm.ClassFile.FieldType.byte), Jvm.Cond.code ({ cls := "com/example/fulla/fulla/model/LatticeIsNamePinLaw", name := "later", desc := "(C)Z" } : Jvm.MethodName) method_3_code (1 : Nat) (Option.some Jvm.ClassFile.FieldType.boolean)]
set_option maxRecDepth 65536 in
theorem codes_eq : words1.filter isCode = codes1 := rfl
theorem w_codes : ∀ c ∈ words1.filter isCode, c.before args0 about1 = true := by
  rw [codes_eq]
  intro c hc
  simp only [codes1, List.mem_cons, List.not_mem_nil, or_false] at hc
  rcases hc with rfl | rfl | rfl | rfl | rfl | rfl | rfl | rfl | rfl | rfl | rfl | rfl | rfl | rfl | rfl | rfl | rfl | rfl | rfl | rfl | rfl | rfl | rfl | rfl | rfl | rfl | rfl | rfl
  · exact w_c0
  · exact w_c1
  · exact w_c2
  · exact w_c3
  · exact w_c4
  · exact w_c5
  · exact w_c6
  · exact w_c7
  · exact w_c8
  · exact w_c9
  · exact w_c10
  · exact w_c11
  · exact w_c12
  · exact w_c13
  · exact w_c14
  · exact w_c15
  · exact w_c16
  · exact w_c17
  · exact w_c18
  · exact w_c19
  · exact w_c20
  · exact w_c21
  · exact w_c22
  · exact w_c23
  · exact w_c24
  · exact w_c25
  · exact w_c26
  · exact w_c27
set_option maxRecDepth 65536 in
theorem w_t1 : (words1.take 24).all (fun c => isCode c || c.before args0 about1) = true := by decide +kernel
set_option maxRecDepth 65536 in
theorem w_t2 : ((words1.drop 24).take 24).all (fun c => isCode c || c.before args0 about1) = true := by decide +kernel
set_option maxRecDepth 65536 in
theorem w_t3 : (((words1.drop 24).drop 24).take 24).all (fun c => isCode c || c.before args0 about1) = true := by decide +kernel
set_option maxRecDepth 65536 in
theorem w_t4 : ((((words1.drop 24).drop 24).drop 24).take 24).all (fun c => isCode c || c.before args0 about1) = true := by decide +kernel
set_option maxRecDepth 65536 in
theorem w_t5 : ((((words1.drop 24).drop 24).drop 24).drop 24).all (fun c => isCode c || c.before args0 about1) = true := by decide +kernel
theorem w_tables : (allAtoms (Jvm.Cond.code x code maxLocals ret :: tables_1)).before args0 about1 = true := by
  rw [allAtoms_all]
  show words1.all (fun c => c.before args0 about1) = true
  refine all_split ?_ w_codes
  rw [← List.take_append_drop 24 words1, List.all_append, w_t1, ← List.take_append_drop 24 (words1.drop 24), List.all_append, w_t2, ← List.take_append_drop 24 ((words1.drop 24).drop 24), List.all_append, w_t3, ← List.take_append_drop 24 (((words1.drop 24).drop 24).drop 24), List.all_append, w_t4, w_t5]
  rfl
set_option maxRecDepth 65536 in
theorem w_rest : rest_1_c.before args0 about1 = true := by decide +kernel
set_option maxRecDepth 65536 in
theorem w_case : (Jvm.Cond.and given_1 narrow_1).before args0 about1 = true := by decide +kernel
set_option maxRecDepth 65536 in
theorem w_consts : constsHeld consts_1 about1 := Jvm.Lit.constsHeldB_iff.mp (by decide +kernel)
theorem w_applies : (headSpec (Jvm.Cond.code x code maxLocals ret :: tables_1) room_1).applies x e0.platform about1 = true :=
  (Spec.applies_iff w_frames).mpr ⟨w_running, w_runnable, w_alone, w_named, w_hears, w_ripe, w_room, w_tables⟩
theorem atStart : AtStart classFile x code maxLocals ret World_1 tables_1 room_1 Calls_1 rest_1 Pre_1 launch0 p0 e0 about1 theMethod args0 below0 :=
  ⟨lists_1, trivial, launch0.admits_env _ _ _, launch0.least_env, fairChoices_fair.cas, fairChoices_fair.clock, w_frames, w_args, w_heap, w_applies, ⟨w_consts, trivial⟩, w_rest, w_case⟩
end start1
theorem witness_1 : WitnessClaimed_1 := ⟨start1.p0, start1.e0, start1.about1, start1.theMethod, start1.args0, start1.below0, start1.atStart⟩
end Jvm.Pilot.@@N@@
